/- Walks: printRule, of a declaration. -/
import Derived.Test.YtkfdcbdlcipmfaaGreatFmtG25
set_option linter.unusedVariables false
set_option linter.unusedSimpArgs false
namespace Go.Proofs.YtkfdcbdlcipmfaaGreatFmt
open Go.RowKit Css
variable {F : Go.Stop.Interp} {W0 : World}
def impB : List UInt8 := [33, 105, 109, 112, 111, 114, 116, 97, 110, 116]
def RetDecl (B g : Nat) (mini asc : Bool) (key : List Int) (ts : List T) (imp noSemi : Bool) (ind : Nat) (bs : List UInt8) (w : World) (e : Ending) (w' : World) : Prop :=
  e = .returned (.tuple #[]) ∧ ∃ cl sp, Prints asc ts (headBefore ts) cl ∧ (enc (flat cl)).length ≤ cost ts + 1 ∧ (imp = false → sp = false) ∧
    Put B g mini asc (bs ++ (if mini then [] else List.replicate (2 * ind) 32) ++ enc (flat (declCh asc key cl sp imp (!noSemi) [])) ++ (if mini then [] else [10])) w w'
theorem decl_bytes (asc : Bool) (key : List Int) (cl : List Ch) (sp imp semi : Bool) (rest : List Ch) : enc (flat (declCh asc key cl sp imp semi rest)) = enc (ident asc false 0 key) ++ [58] ++ enc (flat cl) ++ (if sp then [32] else []) ++ (if imp then impB else []) ++ (if semi then [59] else []) ++ enc (flat rest) := by
  unfold declCh
  cases sp <;> cases imp <;> cases semi <;> simp [flat_append, enc_append, flat_wsT, flat_wsF, enc_cons, impCh, impB, important] <;> rfl
theorem as69_172 (v : Value) (w : World) : (Instr.typeAssert (.iface 69 v) 79 172 true).run Tryz.prog w = .ok (.tuple #[.pointer none, .bool false]) w := assert_no Tryz.underlying172 (by kernel_rfl) (by decide) w
theorem as69_183 (v : Value) (w : World) : (Instr.typeAssert (.iface 69 v) 79 183 true).run Tryz.prog w = .ok (.tuple #[.pointer none, .bool false]) w := assert_no Tryz.underlying183 (by kernel_rfl) (by decide) w
theorem as69_189 (v : Value) (w : World) : (Instr.typeAssert (.iface 69 v) 79 189 true).run Tryz.prog w = .ok (.tuple #[.pointer none, .bool false]) w := assert_no Tryz.underlying189 (by kernel_rfl) (by decide) w
theorem as69_220 (v : Value) (w : World) : (Instr.typeAssert (.iface 69 v) 79 220 true).run Tryz.prog w = .ok (.tuple #[.pointer none, .bool false]) w := assert_no Tryz.underlying220 (by kernel_rfl) (by decide) w
theorem as69_235 (v : Value) (w : World) : (Instr.typeAssert (.iface 69 v) 79 235 true).run Tryz.prog w = .ok (.tuple #[.pointer none, .bool false]) w := assert_no Tryz.underlying235 (by kernel_rfl) (by decide) w
theorem as69_87 (v : Value) (w : World) : (Instr.typeAssert (.iface 69 v) 79 87 true).run Tryz.prog w = .ok (.tuple #[.pointer none, .bool false]) w := assert_no Tryz.underlying87 (by kernel_rfl) (by decide) w
theorem as69_179 (v : Value) (w : World) : (Instr.typeAssert (.iface 69 v) 79 179 true).run Tryz.prog w = .ok (.tuple #[.pointer none, .bool false]) w := assert_no Tryz.underlying179 (by kernel_rfl) (by decide) w
theorem as69_84 (v : Value) (w : World) : (Instr.typeAssert (.iface 69 v) 79 84 true).run Tryz.prog w = .ok (.tuple #[.pointer none, .bool false]) w := assert_no Tryz.underlying84 (by kernel_rfl) (by decide) w
theorem as69_69 (v : Value) (w : World) : (Instr.typeAssert (.iface 69 v) 79 69 true).run Tryz.prog w = .ok (.tuple #[v, .bool true]) w := assert_yes Tryz.underlying69 w
set_option maxHeartbeats 40000000 in
set_option maxRecDepth 100000 in
theorem printRule_decl (g r : Nat) (mini asc : Bool) (nm : List Int) (hv : AllV nm) (hlow : asc = true → ∀ c ∈ nm, c < 1048576) (s : ByteArray) (h : s.data.toList = enc nm) (hss : s.size ≤ 2147483647) (ts : List T) (v : Value) (imp noSemi : Bool) (ind : Nat) (hind : ind ≤ 3) (w : World) (bs : List UInt8) (hcost : cost ts ≤ 134217728) (hok : OKl asc ts)
    (htk : TksAt w (fun b => b < W0.heap.size) v ts) (hE : Env F W0 w) (hst : St W0.heap.size g mini asc bs w) (hl : bs.length + 16 * nm.length + cost ts + 2097152 ≤ 140737488355328)
    (hr : r < W0.heap.size) (cr : Array Value) (T : TypeId) (hrb : w.heap[r]? = some (.cells cr T (0, 0))) (h0 : cr[0]? = some (.string s)) (h1 : cr[1]? = some v) (h5 : cr[5]? = some (.bool imp)) :
    Calls Tryz.prog 56 #[.pointer (some ⟨g, 0, none⟩), .agg #[.iface 69 (.pointer (some ⟨r, 0, none⟩)), .int .i32 0], .int .i32 (ind : Int), .bool noSemi] w (RetDecl W0.heap.size g mini asc nm ts imp noSemi ind bs w) := by
  obtain ⟨A, c, hve, hA⟩ := htk
  subst hve
  have htk : TksAt w (fun b => b < W0.heap.size) (.slice A ts.length c) ts := ⟨A, c, rfl, hA⟩
  have HB0 := Lib.hid (box_below (.cells #[.iface 69 (.pointer (some ⟨r, 0, none⟩)), .int .i32 0] 81) w)
  have HPX : Hid (Put W0.heap.size g mini asc bs (w.alloc (.cells #[.iface 69 (.pointer (some ⟨r, 0, none⟩)), .int .i32 0] 81)) (w.alloc (.cells #[.iface 69 (.pointer (some ⟨r, 0, none⟩)), .int .i32 0] 81))) := Put.refl' (hst.grow HB0.out)
  have HR : Hid (∀ w', Ke W0.heap.size g (w.alloc (.cells #[.iface 69 (.pointer (some ⟨r, 0, none⟩)), .int .i32 0] 81)) w' → w'.cell? ⟨r, 0, none⟩ = some (.string s) ∧ w'.cell? ⟨r, 1, none⟩ = some (.slice A ts.length c) ∧ w'.cell? ⟨r, 5, none⟩ = some (.bool imp)) := fun w' hk => by
    have e : w'.heap[r]? = some (.cells cr T (0, 0)) := (hk.low r hr).trans (blk_below HB0.out hrb)
    exact ⟨(cell_blk e 0).trans h0, (cell_blk e 1).trans h1, (cell_blk e 5).trans h5⟩
  obtain ⟨c0, c1, c2⟩ := HR.out _ HPX.out.ke
  obtain ⟨vv, hatv⟩ := HPX.out.st.at_
  have hlim := hatv.pr.lim
  have hmini := hatv.pr.mini
  have hmaps := hatv.pr.maps
  have hbx : (w.alloc (.cells #[.iface 69 (.pointer (some ⟨r, 0, none⟩)), .int .i32 0] 81)).heap[w.heap.size]? = some (.cells #[.iface 69 (.pointer (some ⟨r, 0, none⟩)), .int .i32 0] 81 (0, 0)) := heap_alloc_new w _
  have HBX := Lib.hid hbx
  have HGX : Hid (w.heap.size ≠ g) := by obtain ⟨⟨v, hp, _⟩, _⟩ := hst; have := hp.lt; show _ ≠ _; omega
  have HIL : Hid (∀ may, (enc (ident asc may 0 nm)).length ≤ 16 * nm.length) := fun may => ident_len hv
  have HKL : Hid ((enc (flat [])).length ≤ cost ts + 1) := by show (0 : Nat) ≤ _; omega
  have HV := Lib.hid hv
  have HLOW := Lib.hid hlow
  have HH := Lib.hid h
  have HSS := Lib.hid hss
  have HC := Lib.hid hcost
  have HOK := Lib.hid hok
  have HTK := Lib.hid (tks_keep (g := g) (Ke.of_below HB0.out hst.base) htk)
  have HE := Lib.hid (hE.below HB0.out)
  have HL := Lib.hid hl
  have HS0 := Lib.hid hst
  have HIND := Lib.hid hind
  have hin0 : (0 : Int) ≤ (ind : Int) := by omega
  have hin1 : (ind : Int) ≤ 3 := by omega
  clear hv hlow h hss hcost hok htk hE hst hl hrb h0 h1 h5 hatv hA hbx hind
  go_enter Tryz.func56, Tryz.ntmps56
  refine wp_sym (fun T => T.size = 971 ∧ Sl T 0 (.pointer (some ⟨g, 0, none⟩)) ∧ Sl T 1 (.agg #[.iface 69 (.pointer (some ⟨r, 0, none⟩)), .int .i32 0]) ∧ Sl T 2 (.int .i32 (ind : Int)) ∧ Sl T 3 (.bool noSemi)) ⟨rfl, rfl, rfl, rfl, rfl⟩ ?_
  rintro F0 ⟨hsz, h0, h1, h2, h3⟩
  have T0 := Lib.hid h0
  have t0 := h0.get
  clear h0
  have T1 := Lib.hid h1
  have t1 := h1.get
  clear h1
  have T2 := Lib.hid h2
  have t2 := h2.get
  clear h2
  have T3 := Lib.hid h3
  have t3 := h3.get
  clear h3
  go_upto_region 1 with (first | ((with_reducible refine wp_cond_w ?_); (conv => arg 1; simp [Act.eval, *]); first | refine condW_t ?_ | refine condW_f ?_) | ((with_reducible refine wpList_skip ?hw ?_); (case hw => simp [Region.wanted, yielded, Act.put, undef, hsz])))
  obtain ⟨bx, hbe⟩ : ∃ bx, w.heap.size = bx := ⟨_, rfl⟩
  have b0 := cell_blk HBX.out 0
  have b1 := cell_blk HBX.out 1
  generalize hW : w.alloc (.cells #[.iface 69 (.pointer (some ⟨r, 0, none⟩)), .int .i32 0] 81) = W at HPX HR HTK HE c0 c1 c2 hlim hmini hmaps b0 b1 HB0 HBX ⊢
  rw [hbe] at b0 b1 HBX HGX ⊢
  clear hW hbe
  have z172 := as69_172 (.pointer (some ⟨r, 0, none⟩))
  have z183 := as69_183 (.pointer (some ⟨r, 0, none⟩))
  have z189 := as69_189 (.pointer (some ⟨r, 0, none⟩))
  have z220 := as69_220 (.pointer (some ⟨r, 0, none⟩))
  have z235 := as69_235 (.pointer (some ⟨r, 0, none⟩))
  have z87 := as69_87 (.pointer (some ⟨r, 0, none⟩))
  have z179 := as69_179 (.pointer (some ⟨r, 0, none⟩))
  have z84 := as69_84 (.pointer (some ⟨r, 0, none⟩))
  have z69 := as69_69 (.pointer (some ⟨r, 0, none⟩))
  go_upto_region 24 with (first | ((with_reducible refine wp_cond_w ?_); (conv => arg 1; simp [Act.eval, *]); first | refine condW_t ?_ | refine condW_f ?_) | ((with_reducible refine wpList_skip ?hw ?_); (case hw => simp [Region.wanted, yielded, Act.put, undef, hsz])))
  clear z172 hlim hmaps
  have HEM : Hid (ts.length = 0 ∨ 0 < ts.length) := by show _ ∨ _; omega
  generalize hnn : ts.length = n at HR HTK HEM c1 ⊢
  clear hnn
  cases mini
  · go_upto_if 715 with (first | ((with_reducible refine wp_cond_w ?_); (conv => arg 1; simp [Act.eval, *]); first | refine condW_t ?_ | refine condW_f ?_) | ((with_reducible refine wpList_skip ?hw ?_); (case hw => simp [Region.wanted, yielded, Act.put, undef, hsz])) | (go_at_call 75; go_must (refine (print1_any _ g false asc _ _ _ HPX.out.st (by have h9 := HIL.out; have h8 := HL.out; have h7 := HKL.out; have h6 := h9 true; have h5 := h9 false; have hI := HIND.out; (try simp only [List.length_append, List.length_cons, List.length_nil, List.length_replicate]); omega)).mono ?_; rintro e' w2 ⟨rfl, hp2⟩; have HPX := Lib.hid (HPX.out.trans hp2); clear hp2; obtain ⟨c0, c1, c2⟩ := HR.out _ HPX.out.ke; obtain ⟨vv, hatv⟩ := HPX.out.st.at_; have hmini := hatv.pr.mini; clear hatv; have b0 := cell_blk (ke_blk HPX.out.ke HBX.out (by decide) HGX.out) 0)) | (go_at_call 82; go_must (refine (printIdent_any (F := F) g false asc false 0 (by decide) (by decide) 1 rfl nm HV.out HLOW.out s HH.out _ (HE.out.ke HPX.out.ke) _ HPX.out.st HSS.out (by have e9 : Int.toNat 0 = 0 := rfl; rw [e9]; have h9 := HIL.out; have h8 := HL.out; have h7 := HKL.out; have h6 := h9 true; have h5 := h9 false; have hI := HIND.out; (try simp only [List.length_append, List.length_cons, List.length_nil, List.length_replicate]); omega)).mono ?_; rintro e' w2 ⟨rfl, hp2⟩; rw [show Int.toNat 0 = 0 from rfl] at hp2; have HPX := Lib.hid (HPX.out.trans hp2); clear hp2; obtain ⟨c0, c1, c2⟩ := HR.out _ HPX.out.ke; obtain ⟨vv, hatv⟩ := HPX.out.st.at_; have hmini := hatv.pr.mini; clear hatv; have b0 := cell_blk (ke_blk HPX.out.ke HBX.out (by decide) HGX.out) 0)) | (go_at_call 80; go_must (refine (printTokens_decl (F := F) g false asc ind (by have := HIND.out; omega) ts _ _ _ HC.out HOK.out (tks_keep HPX.out.ke HTK.out) (HE.out.ke HPX.out.ke) HPX.out.st (by have h9 := HIL.out; have h8 := HL.out; have h7 := HKL.out; have h6 := h9 true; have h5 := h9 false; have hI := HIND.out; (try simp only [List.length_append, List.length_cons, List.length_nil, List.length_replicate]); omega)).mono ?_; rintro e' w2 ⟨hasT, cl, rfl, hpr, hcl, hp2⟩; have HPR := Lib.hid hpr; have HKL := Lib.hid hcl; clear hpr hcl; have HPX := Lib.hid (HPX.out.trans hp2); clear hp2; obtain ⟨c0, c1, c2⟩ := HR.out _ HPX.out.ke; obtain ⟨vv, hatv⟩ := HPX.out.st.at_; have hmini := hatv.pr.mini; clear hatv; have b0 := cell_blk (ke_blk HPX.out.ke HBX.out (by decide) HGX.out) 0)) | (go_at_call 74; go_must (refine (printIndent_any _ g false asc ind (by have := HIND.out; omega) _ _ HPX.out.st (by have h9 := HIL.out; have h8 := HL.out; have h7 := HKL.out; have h6 := h9 true; have h5 := h9 false; have hI := HIND.out; (try simp only [List.length_append, List.length_cons, List.length_nil, List.length_replicate]); omega)).mono ?_; rintro e' w2 ⟨rfl, hp2⟩; have HPX := Lib.hid (HPX.out.trans hp2); clear hp2; obtain ⟨c0, c1, c2⟩ := HR.out _ HPX.out.ke; obtain ⟨vv, hatv⟩ := HPX.out.st.at_; have hmini := hatv.pr.mini; clear hatv; have b0 := cell_blk (ke_blk HPX.out.ke HBX.out (by decide) HGX.out) 0)))
    refine wp_cut (fun a' wx => ∃ T', a' = ⟨T', []⟩ ∧ T'.size = 971 ∧ Sl T' 0 (.pointer (some ⟨g, 0, none⟩)) ∧ Sl T' 3 (.bool noSemi) ∧ ∃ sp : Bool, (imp = false → sp = false) ∧ Hid (Put W0.heap.size g false asc (bs ++ List.replicate (2 * ind) 32 ++ (enc (ident asc false 0 nm) ++ [58] ++ enc (flat cl) ++ (if sp then [32] else []) ++ (if imp then impB else []))) W wx)) ?restfalse ?firstfalse
    case firstfalse =>
      intro J2 K2 hJ2 hK2
      have HJ2 := Lib.hid hJ2
      clear hJ2
      cases hi : imp
      · rw [hi] at c2
        have HI := Lib.hid hi
        clear hi
        go_upto_region 999 with (first | ((with_reducible refine wp_cond_w ?_); (conv => arg 1; simp [Act.eval, *]); first | refine condW_t ?_ | refine condW_f ?_) | ((with_reducible refine wpList_skip ?hw ?_); (case hw => simp [Region.wanted, yielded, Act.put, undef, hsz])) | (go_at_call 75; go_must (refine (print1_any _ g false asc _ _ _ HPX.out.st (by have h9 := HIL.out; have h8 := HL.out; have h7 := HKL.out; have h6 := h9 true; have h5 := h9 false; have hI := HIND.out; (try simp only [List.length_append, List.length_cons, List.length_nil, List.length_replicate]); omega)).mono ?_; rintro e' w2 ⟨rfl, hp2⟩; have HPX := Lib.hid (HPX.out.trans hp2); clear hp2; obtain ⟨c0, c1, c2⟩ := HR.out _ HPX.out.ke; obtain ⟨vv, hatv⟩ := HPX.out.st.at_; have hmini := hatv.pr.mini; clear hatv; have b0 := cell_blk (ke_blk HPX.out.ke HBX.out (by decide) HGX.out) 0)))
        refine Met.intro (HJ2.out _ _ ⟨_, rfl, zs, kp, kp, false, fun _ => rfl, ?_⟩)
        show Put _ _ _ _ _ _ _
        rw [HI.out]
        simpa [List.append_assoc] using HPX.out
      · rw [hi] at c2
        have HI := Lib.hid hi
        clear hi
        rcases HEM.out with hn | hn
        · have hn0 : n = 0 := hn
          subst hn0
          clear hn
          cases hasT
          all_goals
            go_upto_region 161 with (first | ((with_reducible refine wp_cond_w ?_); (conv => arg 1; simp [Act.eval, *]); first | refine condW_t ?_ | refine condW_f ?_) | ((with_reducible refine wpList_skip ?hw ?_); (case hw => simp [Region.wanted, yielded, Act.put, undef, hsz])) | (go_at_call 75; go_must (refine (print1_any _ g false asc _ _ _ HPX.out.st (by have h9 := HIL.out; have h8 := HL.out; have h7 := HKL.out; have h6 := h9 true; have h5 := h9 false; have hI := HIND.out; (try simp only [List.length_append, List.length_cons, List.length_nil, List.length_replicate]); omega)).mono ?_; rintro e' w2 ⟨rfl, hp2⟩; have HPX := Lib.hid (HPX.out.trans hp2); clear hp2; obtain ⟨c0, c1, c2⟩ := HR.out _ HPX.out.ke; obtain ⟨vv, hatv⟩ := HPX.out.st.at_; have hmini := hatv.pr.mini; clear hatv; have b0 := cell_blk (ke_blk HPX.out.ke HBX.out (by decide) HGX.out) 0)))
            go_upto_region 999 with (first | ((with_reducible refine wp_cond_w ?_); (conv => arg 1; simp [Act.eval, *]); first | refine condW_t ?_ | refine condW_f ?_) | ((with_reducible refine wpList_skip ?hw ?_); (case hw => simp [Region.wanted, yielded, Act.put, undef, hsz])) | (go_at_call 75; go_must (refine (print_any _ g false asc ⟨#[33, 105, 109, 112, 111, 114, 116, 97, 110, 116]⟩ _ _ HPX.out.st (by have h9 := HIL.out; have h8 := HL.out; have h7 := HKL.out; have h6 := h9 true; have h5 := h9 false; have hI := HIND.out; have e10 : (⟨#[33, 105, 109, 112, 111, 114, 116, 97, 110, 116]⟩ : ByteArray).size = 10 := rfl; rw [e10]; (try simp only [List.length_append, List.length_cons, List.length_nil, List.length_replicate]); omega)).mono ?_; rintro e' w2 ⟨rfl, hp2⟩; have HPX := Lib.hid (HPX.out.trans hp2); clear hp2; obtain ⟨c0, c1, c2⟩ := HR.out _ HPX.out.ke; obtain ⟨vv, hatv⟩ := HPX.out.st.at_; have hmini := hatv.pr.mini; clear hatv; have b0 := cell_blk (ke_blk HPX.out.ke HBX.out (by decide) HGX.out) 0)))
            refine Met.intro (HJ2.out _ _ ⟨_, rfl, zs, kp, kp, false, fun _ => rfl, ?_⟩)
            show Put _ _ _ _ _ _ _
            rw [HI.out]
            simpa [List.append_assoc, impB] using HPX.out
        · have hn1 : (0 : Int) < (n : Int) := by omega
          cases hasT
          · go_upto_region 161 with (first | ((with_reducible refine wp_cond_w ?_); (conv => arg 1; simp [Act.eval, *]); first | refine condW_t ?_ | refine condW_f ?_) | ((with_reducible refine wpList_skip ?hw ?_); (case hw => simp [Region.wanted, yielded, Act.put, undef, hsz])) | (go_at_call 75; go_must (refine (print1_any _ g false asc _ _ _ HPX.out.st (by have h9 := HIL.out; have h8 := HL.out; have h7 := HKL.out; have h6 := h9 true; have h5 := h9 false; have hI := HIND.out; (try simp only [List.length_append, List.length_cons, List.length_nil, List.length_replicate]); omega)).mono ?_; rintro e' w2 ⟨rfl, hp2⟩; have HPX := Lib.hid (HPX.out.trans hp2); clear hp2; obtain ⟨c0, c1, c2⟩ := HR.out _ HPX.out.ke; obtain ⟨vv, hatv⟩ := HPX.out.st.at_; have hmini := hatv.pr.mini; clear hatv; have b0 := cell_blk (ke_blk HPX.out.ke HBX.out (by decide) HGX.out) 0)))
            go_upto_region 999 with (first | ((with_reducible refine wp_cond_w ?_); (conv => arg 1; simp [Act.eval, *]); first | refine condW_t ?_ | refine condW_f ?_) | ((with_reducible refine wpList_skip ?hw ?_); (case hw => simp [Region.wanted, yielded, Act.put, undef, hsz])) | (go_at_call 75; go_must (refine (print_any _ g false asc ⟨#[33, 105, 109, 112, 111, 114, 116, 97, 110, 116]⟩ _ _ HPX.out.st (by have h9 := HIL.out; have h8 := HL.out; have h7 := HKL.out; have h6 := h9 true; have h5 := h9 false; have hI := HIND.out; have e10 : (⟨#[33, 105, 109, 112, 111, 114, 116, 97, 110, 116]⟩ : ByteArray).size = 10 := rfl; rw [e10]; (try simp only [List.length_append, List.length_cons, List.length_nil, List.length_replicate]); omega)).mono ?_; rintro e' w2 ⟨rfl, hp2⟩; have HPX := Lib.hid (HPX.out.trans hp2); clear hp2; obtain ⟨c0, c1, c2⟩ := HR.out _ HPX.out.ke; obtain ⟨vv, hatv⟩ := HPX.out.st.at_; have hmini := hatv.pr.mini; clear hatv; have b0 := cell_blk (ke_blk HPX.out.ke HBX.out (by decide) HGX.out) 0)))
            refine Met.intro (HJ2.out _ _ ⟨_, rfl, zs, kp, kp, true, (fun h => absurd (HI.out.symm.trans h) (by decide)), ?_⟩)
            show Put _ _ _ _ _ _ _
            rw [HI.out]
            simpa [List.append_assoc, impB] using HPX.out
          · go_upto_region 161 with (first | ((with_reducible refine wp_cond_w ?_); (conv => arg 1; simp [Act.eval, *]); first | refine condW_t ?_ | refine condW_f ?_) | ((with_reducible refine wpList_skip ?hw ?_); (case hw => simp [Region.wanted, yielded, Act.put, undef, hsz])) | (go_at_call 75; go_must (refine (print1_any _ g false asc _ _ _ HPX.out.st (by have h9 := HIL.out; have h8 := HL.out; have h7 := HKL.out; have h6 := h9 true; have h5 := h9 false; have hI := HIND.out; (try simp only [List.length_append, List.length_cons, List.length_nil, List.length_replicate]); omega)).mono ?_; rintro e' w2 ⟨rfl, hp2⟩; have HPX := Lib.hid (HPX.out.trans hp2); clear hp2; obtain ⟨c0, c1, c2⟩ := HR.out _ HPX.out.ke; obtain ⟨vv, hatv⟩ := HPX.out.st.at_; have hmini := hatv.pr.mini; clear hatv; have b0 := cell_blk (ke_blk HPX.out.ke HBX.out (by decide) HGX.out) 0)))
            go_upto_region 999 with (first | ((with_reducible refine wp_cond_w ?_); (conv => arg 1; simp [Act.eval, *]); first | refine condW_t ?_ | refine condW_f ?_) | ((with_reducible refine wpList_skip ?hw ?_); (case hw => simp [Region.wanted, yielded, Act.put, undef, hsz])) | (go_at_call 75; go_must (refine (print_any _ g false asc ⟨#[33, 105, 109, 112, 111, 114, 116, 97, 110, 116]⟩ _ _ HPX.out.st (by have h9 := HIL.out; have h8 := HL.out; have h7 := HKL.out; have h6 := h9 true; have h5 := h9 false; have hI := HIND.out; have e10 : (⟨#[33, 105, 109, 112, 111, 114, 116, 97, 110, 116]⟩ : ByteArray).size = 10 := rfl; rw [e10]; (try simp only [List.length_append, List.length_cons, List.length_nil, List.length_replicate]); omega)).mono ?_; rintro e' w2 ⟨rfl, hp2⟩; have HPX := Lib.hid (HPX.out.trans hp2); clear hp2; obtain ⟨c0, c1, c2⟩ := HR.out _ HPX.out.ke; obtain ⟨vv, hatv⟩ := HPX.out.st.at_; have hmini := hatv.pr.mini; clear hatv; have b0 := cell_blk (ke_blk HPX.out.ke HBX.out (by decide) HGX.out) 0)))
            refine Met.intro (HJ2.out _ _ ⟨_, rfl, zs, kp, kp, false, (fun h => rfl), ?_⟩)
            show Put _ _ _ _ _ _ _
            rw [HI.out]
            simpa [List.append_assoc, impB] using HPX.out
    case restfalse =>
    intro a' W3 hcut
    obtain ⟨F1, rfl, hsz2, h0, h3, sp, hsp, HPY⟩ := hcut
    clear hsz t0 t1 t2 t3 T0 T1 T2 T3 HPX c0 c1 c2 b0 b1 hmini F0
    have hsz := hsz2
    clear hsz2
    have T0 := Lib.hid h0
    have t0 := h0.get
    clear h0
    have T3 := Lib.hid h3
    have t3 := h3.get
    clear h3
    have HPX := HPY
    have HSP := Lib.hid hsp
    clear HPY hsp
    obtain ⟨c0, c1, c2⟩ := HR.out _ HPX.out.ke
    obtain ⟨vv, hatv⟩ := HPX.out.st.at_
    have hmini := hatv.pr.mini
    clear hatv
    have b0 := cell_blk (ke_blk HPX.out.ke HBX.out (by decide) HGX.out) 0
    have HSL : Hid ((if sp then ([32] : List UInt8) else []).length ≤ 1 ∧ (if imp then impB else ([] : List UInt8)).length ≤ 10) := by constructor <;> split <;> simp [impB]
    cases noSemi
    · go_upto_region 999 with (first | ((with_reducible refine wp_cond_w ?_); (conv => arg 1; simp [Act.eval, *]); first | refine condW_t ?_ | refine condW_f ?_) | ((with_reducible refine wpList_skip ?hw ?_); (case hw => simp [Region.wanted, yielded, Act.put, undef, hsz])) | (go_at_call 75; go_must (refine (print1_any _ g false asc _ _ _ HPX.out.st (by have h9 := HIL.out; have h8 := HL.out; have h7 := HKL.out; have h6 := h9 true; have h5 := h9 false; have hI := HIND.out; have hS := HSL.out; (try simp only [List.length_append, List.length_cons, List.length_nil, List.length_replicate] at hS ⊢); omega)).mono ?_; rintro e' w2 ⟨rfl, hp2⟩; have HPX := Lib.hid (HPX.out.trans hp2); clear hp2; obtain ⟨c0, c1, c2⟩ := HR.out _ HPX.out.ke; obtain ⟨vv, hatv⟩ := HPX.out.st.at_; have hmini := hatv.pr.mini; clear hatv; have b0 := cell_blk (ke_blk HPX.out.ke HBX.out (by decide) HGX.out) 0)))
      go_end0
      refine ⟨rfl, cl, sp, HPR.out, HKL.out, HSP.out, ?_⟩
      rw [decl_bytes]
      simpa [List.append_assoc, enc] using Put.of_below HS0.out HB0.out HPX.out
    · go_upto_region 999 with (first | ((with_reducible refine wp_cond_w ?_); (conv => arg 1; simp [Act.eval, *]); first | refine condW_t ?_ | refine condW_f ?_) | ((with_reducible refine wpList_skip ?hw ?_); (case hw => simp [Region.wanted, yielded, Act.put, undef, hsz])) | (go_at_call 75; go_must (refine (print1_any _ g false asc _ _ _ HPX.out.st (by have h9 := HIL.out; have h8 := HL.out; have h7 := HKL.out; have h6 := h9 true; have h5 := h9 false; have hI := HIND.out; have hS := HSL.out; (try simp only [List.length_append, List.length_cons, List.length_nil, List.length_replicate] at hS ⊢); omega)).mono ?_; rintro e' w2 ⟨rfl, hp2⟩; have HPX := Lib.hid (HPX.out.trans hp2); clear hp2; obtain ⟨c0, c1, c2⟩ := HR.out _ HPX.out.ke; obtain ⟨vv, hatv⟩ := HPX.out.st.at_; have hmini := hatv.pr.mini; clear hatv; have b0 := cell_blk (ke_blk HPX.out.ke HBX.out (by decide) HGX.out) 0)))
      go_end0
      refine ⟨rfl, cl, sp, HPR.out, HKL.out, HSP.out, ?_⟩
      rw [decl_bytes]
      simpa [List.append_assoc, enc] using Put.of_below HS0.out HB0.out HPX.out
  · go_upto_if 715 with (first | ((with_reducible refine wp_cond_w ?_); (conv => arg 1; simp [Act.eval, *]); first | refine condW_t ?_ | refine condW_f ?_) | ((with_reducible refine wpList_skip ?hw ?_); (case hw => simp [Region.wanted, yielded, Act.put, undef, hsz])) | (go_at_call 75; go_must (refine (print1_any _ g true asc _ _ _ HPX.out.st (by have h9 := HIL.out; have h8 := HL.out; have h7 := HKL.out; have h6 := h9 true; have h5 := h9 false; have hI := HIND.out; (try simp only [List.length_append, List.length_cons, List.length_nil, List.length_replicate]); omega)).mono ?_; rintro e' w2 ⟨rfl, hp2⟩; have HPX := Lib.hid (HPX.out.trans hp2); clear hp2; obtain ⟨c0, c1, c2⟩ := HR.out _ HPX.out.ke; obtain ⟨vv, hatv⟩ := HPX.out.st.at_; have hmini := hatv.pr.mini; clear hatv; have b0 := cell_blk (ke_blk HPX.out.ke HBX.out (by decide) HGX.out) 0)) | (go_at_call 82; go_must (refine (printIdent_any (F := F) g true asc false 0 (by decide) (by decide) 1 rfl nm HV.out HLOW.out s HH.out _ (HE.out.ke HPX.out.ke) _ HPX.out.st HSS.out (by have e9 : Int.toNat 0 = 0 := rfl; rw [e9]; have h9 := HIL.out; have h8 := HL.out; have h7 := HKL.out; have h6 := h9 true; have h5 := h9 false; have hI := HIND.out; (try simp only [List.length_append, List.length_cons, List.length_nil, List.length_replicate]); omega)).mono ?_; rintro e' w2 ⟨rfl, hp2⟩; rw [show Int.toNat 0 = 0 from rfl] at hp2; have HPX := Lib.hid (HPX.out.trans hp2); clear hp2; obtain ⟨c0, c1, c2⟩ := HR.out _ HPX.out.ke; obtain ⟨vv, hatv⟩ := HPX.out.st.at_; have hmini := hatv.pr.mini; clear hatv; have b0 := cell_blk (ke_blk HPX.out.ke HBX.out (by decide) HGX.out) 0)) | (go_at_call 80; go_must (refine (printTokens_decl (F := F) g true asc ind (by have := HIND.out; omega) ts _ _ _ HC.out HOK.out (tks_keep HPX.out.ke HTK.out) (HE.out.ke HPX.out.ke) HPX.out.st (by have h9 := HIL.out; have h8 := HL.out; have h7 := HKL.out; have h6 := h9 true; have h5 := h9 false; have hI := HIND.out; (try simp only [List.length_append, List.length_cons, List.length_nil, List.length_replicate]); omega)).mono ?_; rintro e' w2 ⟨hasT, cl, rfl, hpr, hcl, hp2⟩; have HPR := Lib.hid hpr; have HKL := Lib.hid hcl; clear hpr hcl; have HPX := Lib.hid (HPX.out.trans hp2); clear hp2; obtain ⟨c0, c1, c2⟩ := HR.out _ HPX.out.ke; obtain ⟨vv, hatv⟩ := HPX.out.st.at_; have hmini := hatv.pr.mini; clear hatv; have b0 := cell_blk (ke_blk HPX.out.ke HBX.out (by decide) HGX.out) 0)) | (go_at_call 74; go_must (refine (printIndent_any _ g true asc ind (by have := HIND.out; omega) _ _ HPX.out.st (by have h9 := HIL.out; have h8 := HL.out; have h7 := HKL.out; have h6 := h9 true; have h5 := h9 false; have hI := HIND.out; (try simp only [List.length_append, List.length_cons, List.length_nil, List.length_replicate]); omega)).mono ?_; rintro e' w2 ⟨rfl, hp2⟩; have HPX := Lib.hid (HPX.out.trans hp2); clear hp2; obtain ⟨c0, c1, c2⟩ := HR.out _ HPX.out.ke; obtain ⟨vv, hatv⟩ := HPX.out.st.at_; have hmini := hatv.pr.mini; clear hatv; have b0 := cell_blk (ke_blk HPX.out.ke HBX.out (by decide) HGX.out) 0)))
    refine wp_cut (fun a' wx => ∃ T', a' = ⟨T', []⟩ ∧ T'.size = 971 ∧ Sl T' 0 (.pointer (some ⟨g, 0, none⟩)) ∧ Sl T' 3 (.bool noSemi) ∧ ∃ sp : Bool, (imp = false → sp = false) ∧ Hid (Put W0.heap.size g true asc (bs ++ [] ++ (enc (ident asc false 0 nm) ++ [58] ++ enc (flat cl) ++ (if sp then [32] else []) ++ (if imp then impB else []))) W wx)) ?resttrue ?firsttrue
    case firsttrue =>
      intro J2 K2 hJ2 hK2
      have HJ2 := Lib.hid hJ2
      clear hJ2
      cases hi : imp
      · rw [hi] at c2
        have HI := Lib.hid hi
        clear hi
        go_upto_region 999 with (first | ((with_reducible refine wp_cond_w ?_); (conv => arg 1; simp [Act.eval, *]); first | refine condW_t ?_ | refine condW_f ?_) | ((with_reducible refine wpList_skip ?hw ?_); (case hw => simp [Region.wanted, yielded, Act.put, undef, hsz])) | (go_at_call 75; go_must (refine (print1_any _ g true asc _ _ _ HPX.out.st (by have h9 := HIL.out; have h8 := HL.out; have h7 := HKL.out; have h6 := h9 true; have h5 := h9 false; have hI := HIND.out; (try simp only [List.length_append, List.length_cons, List.length_nil, List.length_replicate]); omega)).mono ?_; rintro e' w2 ⟨rfl, hp2⟩; have HPX := Lib.hid (HPX.out.trans hp2); clear hp2; obtain ⟨c0, c1, c2⟩ := HR.out _ HPX.out.ke; obtain ⟨vv, hatv⟩ := HPX.out.st.at_; have hmini := hatv.pr.mini; clear hatv; have b0 := cell_blk (ke_blk HPX.out.ke HBX.out (by decide) HGX.out) 0)))
        refine Met.intro (HJ2.out _ _ ⟨_, rfl, zs, kp, kp, false, fun _ => rfl, ?_⟩)
        show Put _ _ _ _ _ _ _
        rw [HI.out]
        simpa [List.append_assoc] using HPX.out
      · rw [hi] at c2
        have HI := Lib.hid hi
        clear hi
        rcases HEM.out with hn | hn
        · have hn0 : n = 0 := hn
          subst hn0
          clear hn
          cases hasT
          all_goals
            go_upto_region 161 with (first | ((with_reducible refine wp_cond_w ?_); (conv => arg 1; simp [Act.eval, *]); first | refine condW_t ?_ | refine condW_f ?_) | ((with_reducible refine wpList_skip ?hw ?_); (case hw => simp [Region.wanted, yielded, Act.put, undef, hsz])) | (go_at_call 75; go_must (refine (print1_any _ g true asc _ _ _ HPX.out.st (by have h9 := HIL.out; have h8 := HL.out; have h7 := HKL.out; have h6 := h9 true; have h5 := h9 false; have hI := HIND.out; (try simp only [List.length_append, List.length_cons, List.length_nil, List.length_replicate]); omega)).mono ?_; rintro e' w2 ⟨rfl, hp2⟩; have HPX := Lib.hid (HPX.out.trans hp2); clear hp2; obtain ⟨c0, c1, c2⟩ := HR.out _ HPX.out.ke; obtain ⟨vv, hatv⟩ := HPX.out.st.at_; have hmini := hatv.pr.mini; clear hatv; have b0 := cell_blk (ke_blk HPX.out.ke HBX.out (by decide) HGX.out) 0)))
            go_upto_region 999 with (first | ((with_reducible refine wp_cond_w ?_); (conv => arg 1; simp [Act.eval, *]); first | refine condW_t ?_ | refine condW_f ?_) | ((with_reducible refine wpList_skip ?hw ?_); (case hw => simp [Region.wanted, yielded, Act.put, undef, hsz])) | (go_at_call 75; go_must (refine (print_any _ g true asc ⟨#[33, 105, 109, 112, 111, 114, 116, 97, 110, 116]⟩ _ _ HPX.out.st (by have h9 := HIL.out; have h8 := HL.out; have h7 := HKL.out; have h6 := h9 true; have h5 := h9 false; have hI := HIND.out; have e10 : (⟨#[33, 105, 109, 112, 111, 114, 116, 97, 110, 116]⟩ : ByteArray).size = 10 := rfl; rw [e10]; (try simp only [List.length_append, List.length_cons, List.length_nil, List.length_replicate]); omega)).mono ?_; rintro e' w2 ⟨rfl, hp2⟩; have HPX := Lib.hid (HPX.out.trans hp2); clear hp2; obtain ⟨c0, c1, c2⟩ := HR.out _ HPX.out.ke; obtain ⟨vv, hatv⟩ := HPX.out.st.at_; have hmini := hatv.pr.mini; clear hatv; have b0 := cell_blk (ke_blk HPX.out.ke HBX.out (by decide) HGX.out) 0)))
            refine Met.intro (HJ2.out _ _ ⟨_, rfl, zs, kp, kp, false, fun _ => rfl, ?_⟩)
            show Put _ _ _ _ _ _ _
            rw [HI.out]
            simpa [List.append_assoc, impB] using HPX.out
        · have hn1 : (0 : Int) < (n : Int) := by omega
          cases hasT
          · go_upto_region 161 with (first | ((with_reducible refine wp_cond_w ?_); (conv => arg 1; simp [Act.eval, *]); first | refine condW_t ?_ | refine condW_f ?_) | ((with_reducible refine wpList_skip ?hw ?_); (case hw => simp [Region.wanted, yielded, Act.put, undef, hsz])) | (go_at_call 75; go_must (refine (print1_any _ g true asc _ _ _ HPX.out.st (by have h9 := HIL.out; have h8 := HL.out; have h7 := HKL.out; have h6 := h9 true; have h5 := h9 false; have hI := HIND.out; (try simp only [List.length_append, List.length_cons, List.length_nil, List.length_replicate]); omega)).mono ?_; rintro e' w2 ⟨rfl, hp2⟩; have HPX := Lib.hid (HPX.out.trans hp2); clear hp2; obtain ⟨c0, c1, c2⟩ := HR.out _ HPX.out.ke; obtain ⟨vv, hatv⟩ := HPX.out.st.at_; have hmini := hatv.pr.mini; clear hatv; have b0 := cell_blk (ke_blk HPX.out.ke HBX.out (by decide) HGX.out) 0)))
            go_upto_region 999 with (first | ((with_reducible refine wp_cond_w ?_); (conv => arg 1; simp [Act.eval, *]); first | refine condW_t ?_ | refine condW_f ?_) | ((with_reducible refine wpList_skip ?hw ?_); (case hw => simp [Region.wanted, yielded, Act.put, undef, hsz])) | (go_at_call 75; go_must (refine (print_any _ g true asc ⟨#[33, 105, 109, 112, 111, 114, 116, 97, 110, 116]⟩ _ _ HPX.out.st (by have h9 := HIL.out; have h8 := HL.out; have h7 := HKL.out; have h6 := h9 true; have h5 := h9 false; have hI := HIND.out; have e10 : (⟨#[33, 105, 109, 112, 111, 114, 116, 97, 110, 116]⟩ : ByteArray).size = 10 := rfl; rw [e10]; (try simp only [List.length_append, List.length_cons, List.length_nil, List.length_replicate]); omega)).mono ?_; rintro e' w2 ⟨rfl, hp2⟩; have HPX := Lib.hid (HPX.out.trans hp2); clear hp2; obtain ⟨c0, c1, c2⟩ := HR.out _ HPX.out.ke; obtain ⟨vv, hatv⟩ := HPX.out.st.at_; have hmini := hatv.pr.mini; clear hatv; have b0 := cell_blk (ke_blk HPX.out.ke HBX.out (by decide) HGX.out) 0)))
            refine Met.intro (HJ2.out _ _ ⟨_, rfl, zs, kp, kp, false, (fun h => absurd (HI.out.symm.trans h) (by decide)), ?_⟩)
            show Put _ _ _ _ _ _ _
            rw [HI.out]
            simpa [List.append_assoc, impB] using HPX.out
          · go_upto_region 161 with (first | ((with_reducible refine wp_cond_w ?_); (conv => arg 1; simp [Act.eval, *]); first | refine condW_t ?_ | refine condW_f ?_) | ((with_reducible refine wpList_skip ?hw ?_); (case hw => simp [Region.wanted, yielded, Act.put, undef, hsz])) | (go_at_call 75; go_must (refine (print1_any _ g true asc _ _ _ HPX.out.st (by have h9 := HIL.out; have h8 := HL.out; have h7 := HKL.out; have h6 := h9 true; have h5 := h9 false; have hI := HIND.out; (try simp only [List.length_append, List.length_cons, List.length_nil, List.length_replicate]); omega)).mono ?_; rintro e' w2 ⟨rfl, hp2⟩; have HPX := Lib.hid (HPX.out.trans hp2); clear hp2; obtain ⟨c0, c1, c2⟩ := HR.out _ HPX.out.ke; obtain ⟨vv, hatv⟩ := HPX.out.st.at_; have hmini := hatv.pr.mini; clear hatv; have b0 := cell_blk (ke_blk HPX.out.ke HBX.out (by decide) HGX.out) 0)))
            go_upto_region 999 with (first | ((with_reducible refine wp_cond_w ?_); (conv => arg 1; simp [Act.eval, *]); first | refine condW_t ?_ | refine condW_f ?_) | ((with_reducible refine wpList_skip ?hw ?_); (case hw => simp [Region.wanted, yielded, Act.put, undef, hsz])) | (go_at_call 75; go_must (refine (print_any _ g true asc ⟨#[33, 105, 109, 112, 111, 114, 116, 97, 110, 116]⟩ _ _ HPX.out.st (by have h9 := HIL.out; have h8 := HL.out; have h7 := HKL.out; have h6 := h9 true; have h5 := h9 false; have hI := HIND.out; have e10 : (⟨#[33, 105, 109, 112, 111, 114, 116, 97, 110, 116]⟩ : ByteArray).size = 10 := rfl; rw [e10]; (try simp only [List.length_append, List.length_cons, List.length_nil, List.length_replicate]); omega)).mono ?_; rintro e' w2 ⟨rfl, hp2⟩; have HPX := Lib.hid (HPX.out.trans hp2); clear hp2; obtain ⟨c0, c1, c2⟩ := HR.out _ HPX.out.ke; obtain ⟨vv, hatv⟩ := HPX.out.st.at_; have hmini := hatv.pr.mini; clear hatv; have b0 := cell_blk (ke_blk HPX.out.ke HBX.out (by decide) HGX.out) 0)))
            refine Met.intro (HJ2.out _ _ ⟨_, rfl, zs, kp, kp, false, (fun h => rfl), ?_⟩)
            show Put _ _ _ _ _ _ _
            rw [HI.out]
            simpa [List.append_assoc, impB] using HPX.out
    case resttrue =>
    intro a' W3 hcut
    obtain ⟨F1, rfl, hsz2, h0, h3, sp, hsp, HPY⟩ := hcut
    clear hsz t0 t1 t2 t3 T0 T1 T2 T3 HPX c0 c1 c2 b0 b1 hmini F0
    have hsz := hsz2
    clear hsz2
    have T0 := Lib.hid h0
    have t0 := h0.get
    clear h0
    have T3 := Lib.hid h3
    have t3 := h3.get
    clear h3
    have HPX := HPY
    have HSP := Lib.hid hsp
    clear HPY hsp
    obtain ⟨c0, c1, c2⟩ := HR.out _ HPX.out.ke
    obtain ⟨vv, hatv⟩ := HPX.out.st.at_
    have hmini := hatv.pr.mini
    clear hatv
    have b0 := cell_blk (ke_blk HPX.out.ke HBX.out (by decide) HGX.out) 0
    have HSL : Hid ((if sp then ([32] : List UInt8) else []).length ≤ 1 ∧ (if imp then impB else ([] : List UInt8)).length ≤ 10) := by constructor <;> split <;> simp [impB]
    cases noSemi
    · go_upto_region 999 with (first | ((with_reducible refine wp_cond_w ?_); (conv => arg 1; simp [Act.eval, *]); first | refine condW_t ?_ | refine condW_f ?_) | ((with_reducible refine wpList_skip ?hw ?_); (case hw => simp [Region.wanted, yielded, Act.put, undef, hsz])) | (go_at_call 75; go_must (refine (print1_any _ g true asc _ _ _ HPX.out.st (by have h9 := HIL.out; have h8 := HL.out; have h7 := HKL.out; have h6 := h9 true; have h5 := h9 false; have hI := HIND.out; have hS := HSL.out; (try simp only [List.length_append, List.length_cons, List.length_nil, List.length_replicate] at hS ⊢); omega)).mono ?_; rintro e' w2 ⟨rfl, hp2⟩; have HPX := Lib.hid (HPX.out.trans hp2); clear hp2; obtain ⟨c0, c1, c2⟩ := HR.out _ HPX.out.ke; obtain ⟨vv, hatv⟩ := HPX.out.st.at_; have hmini := hatv.pr.mini; clear hatv; have b0 := cell_blk (ke_blk HPX.out.ke HBX.out (by decide) HGX.out) 0)))
      go_end0
      refine ⟨rfl, cl, sp, HPR.out, HKL.out, HSP.out, ?_⟩
      rw [decl_bytes]
      simpa [List.append_assoc, enc] using Put.of_below HS0.out HB0.out HPX.out
    · go_upto_region 999 with (first | ((with_reducible refine wp_cond_w ?_); (conv => arg 1; simp [Act.eval, *]); first | refine condW_t ?_ | refine condW_f ?_) | ((with_reducible refine wpList_skip ?hw ?_); (case hw => simp [Region.wanted, yielded, Act.put, undef, hsz])) | (go_at_call 75; go_must (refine (print1_any _ g true asc _ _ _ HPX.out.st (by have h9 := HIL.out; have h8 := HL.out; have h7 := HKL.out; have h6 := h9 true; have h5 := h9 false; have hI := HIND.out; have hS := HSL.out; (try simp only [List.length_append, List.length_cons, List.length_nil, List.length_replicate] at hS ⊢); omega)).mono ?_; rintro e' w2 ⟨rfl, hp2⟩; have HPX := Lib.hid (HPX.out.trans hp2); clear hp2; obtain ⟨c0, c1, c2⟩ := HR.out _ HPX.out.ke; obtain ⟨vv, hatv⟩ := HPX.out.st.at_; have hmini := hatv.pr.mini; clear hatv; have b0 := cell_blk (ke_blk HPX.out.ke HBX.out (by decide) HGX.out) 0)))
      go_end0
      refine ⟨rfl, cl, sp, HPR.out, HKL.out, HSP.out, ?_⟩
      rw [decl_bytes]
      simpa [List.append_assoc, enc] using Put.of_below HS0.out HB0.out HPX.out
end Go.Proofs.YtkfdcbdlcipmfaaGreatFmt
