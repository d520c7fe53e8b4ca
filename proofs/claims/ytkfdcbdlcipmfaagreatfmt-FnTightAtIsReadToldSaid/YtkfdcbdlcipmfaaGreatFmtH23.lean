/- Walks: printed, At. -/
import Derived.Test.YtkfdcbdlcipmfaaGreatFmtH21
import Derived.Test.YtkfdcbdlcipmfaaGreatFmtH22
import Derived.Test.YtkfdcbdlcipmfaaGreatFmtH13
import Derived.Test.YtkfdcbdlcipmfaaGreatFmtH07
set_option linter.unusedVariables false
set_option linter.unusedSimpArgs false
namespace Go.Proofs.YtkfdcbdlcipmfaaGreatFmt
open Go.RowKit Css
variable {F : Go.Stop.Interp} {W0 w w' : World}
theorem Env.rebase (h : Env F W0 w) : Env F w w := ⟨⟨h.tabs, h.case_, h.fold, h.tape⟩, fun _ _ => rfl, Nat.le_refl _, rfl⟩
def RetPrinted (X : List UInt8 → Prop) (w : World) (e : Ending) (w' : World) : Prop := ∃ s : ByteArray, e = .returned (.string s) ∧ X s.data.toList ∧ Below w.heap.size w w'
set_option maxHeartbeats 8000000 in
set_option maxRecDepth 100000 in
theorem printed_any (mini asc : Bool) (r : Nat) (t : TypeId) (w : World) (hE : Env F w w) (X : List UInt8 → Prop) (hX : ∀ out, X out → out ≠ [])
    (hrule : ∀ Wp, Below w.heap.size w Wp → ∀ g W', (∀ i, i < Wp.heap.size → W'.heap[i]? = Wp.heap[i]?) → Env F Wp W' → St Wp.heap.size g mini asc [] W' → Calls Tryz.prog 56 #[.pointer (some ⟨g, 0, none⟩), .agg #[.iface t (.pointer (some ⟨r, 0, none⟩)), .int .i32 0], .int .i32 0, .bool false] W' (fun e w' => e = .returned (.tuple #[]) ∧ ∃ out, X out ∧ Put Wp.heap.size g mini asc out W' w')) :
    Calls Tryz.prog 34 #[.iface t (.pointer (some ⟨r, 0, none⟩)), .bool mini, .bool asc] w (RetPrinted X w) := by
  have HE := Lib.hid hE
  have HX := Lib.hid hX
  have HRULE := Lib.hid hrule
  clear hE hX hrule
  go_enter Tryz.func34, Tryz.ntmps34
  refine wp_sym (fun T => T.size = 20 ∧ Sl T 0 (.iface t (.pointer (some ⟨r, 0, none⟩))) ∧ Sl T 1 (.bool mini) ∧ Sl T 2 (.bool asc)) ⟨rfl, rfl, rfl, rfl⟩ ?_
  rintro F0 ⟨hsz, h0, h1, h2⟩
  have T0 := Lib.hid h0
  have t0 := h0.get
  clear h0
  have T1 := Lib.hid h1
  have t1 := h1.get
  clear h1
  have T2 := Lib.hid h2
  have t2 := h2.get
  clear h2
  go_upto_region 2 with (fail)
  change Code.wp _ _ _ _ ((w.alloc (.cells #[.iface t (.pointer (some ⟨r, 0, none⟩)), .int .i32 0] 81)).alloc (.cells (astV w.heap.size) 116))
  have hq : ((w.alloc (.cells #[.iface t (.pointer (some ⟨r, 0, none⟩)), .int .i32 0] 81)).alloc (.cells (astV w.heap.size) 116)).heap[w.heap.size]? = some (.cells #[.iface t (.pointer (some ⟨r, 0, none⟩)), .int .i32 0] 81 (0, 0)) := blk_below (box_below _ _) (heap_alloc_new w _)
  have ha : ((w.alloc (.cells #[.iface t (.pointer (some ⟨r, 0, none⟩)), .int .i32 0] 81)).alloc (.cells (astV w.heap.size) 116)).heap[w.heap.size + 1]? = some (.cells (astV w.heap.size) 116 (0, 0)) := by
    have e : w.heap.size + 1 = (w.alloc (.cells #[.iface t (.pointer (some ⟨r, 0, none⟩)), .int .i32 0] 81)).heap.size := by simp
    rw [e]; exact heap_alloc_new _ _
  have HBW : Hid (Below w.heap.size w ((w.alloc (.cells #[.iface t (.pointer (some ⟨r, 0, none⟩)), .int .i32 0] 81)).alloc (.cells (astV w.heap.size) 116))) := ((Below.refl _ _).alloc (Nat.le_refl _) _).alloc (by simp) _
  generalize hW : ((w.alloc (.cells #[.iface t (.pointer (some ⟨r, 0, none⟩)), .int .i32 0] 81)).alloc (.cells (astV w.heap.size) 116)) = W at hq ha HBW ⊢
  obtain ⟨q, hqe⟩ : ∃ q, w.heap.size = q := ⟨_, rfl⟩
  rw [hqe] at hq ha ⊢
  have HQ := Lib.hid hq
  have HA := Lib.hid ha
  clear hW hqe hq ha t0 T0
  refine wp_sym (fun T => T.size = 20 ∧ Sl T 1 (.bool mini) ∧ Sl T 2 (.bool asc) ∧ Sl T 7 (.pointer (some ⟨q + 1, 0, none⟩))) ⟨zs, kp, kp, nw⟩ ?_
  clear hsz t1 t2 T1 T2 F0
  rintro F1 ⟨hsz, h1, h2, h7⟩
  have T1 := Lib.hid h1
  have t1 := h1.get
  clear h1
  have T2 := Lib.hid h2
  have t2 := h2.get
  clear h2
  have T7 := Lib.hid h7
  have t7 := h7.get
  clear h7
  refine wp_cut (fun a' wx => ∃ T' s, a' = ⟨T', []⟩ ∧ T'.size = 20 ∧ Sl T' 6 (.string s) ∧ Hid (X s.data.toList ∧ Below w.heap.size w wx)) ?rest ?first
  case first =>
    intro J K' hJ hK'
    have HJ := Lib.hid hJ
    clear hJ
    have hSd : Below W.heap.size W W.drew := (Below.refl _ _).drew
    refine wp_region_held (S := fun w' => Below W.heap.size W w') (by kernel_rfl) ?_
    change wpAnyH Tryz.prog .any _ _ _ 9 _ _ W.drew
    refine wpAnyH_take (i := 0) (v := .agg (astV q)) rfl (by kernel_rfl) (by kernel_rfl) (by kernel_rfl) (fun _ _ _ h => h) (.inl ⟨rfl, fun w' hw' => ?_⟩) hSd ?_
    · have := run_loadVar_row (P := Tryz.prog) w' (q + 1) 116 116 (astV q) (0, 0) _ (blk_below hw' HA.out) Tryz.underlying116 rfl (show (Tryz.prog.info? 116).map (·.size) = some 14 by kernel_rfl)
      simp [execOp, Act.eval, Act.put, Instr.loadAt, Instr.sureAddr, hsz, t7, asAddr, this]
    refine wpAnyH_take (i := 2) (v := .bool mini) rfl (by kernel_rfl) (by kernel_rfl) (by kernel_rfl) (fun _ _ _ h => h) (.inl ⟨rfl, fun w' hw' => ?_⟩) hSd ?_
    · simp [go_sem, hsz, t1]
    refine wpAnyH_take (i := 3) (v := .bool asc) rfl (by kernel_rfl) (by kernel_rfl) (by kernel_rfl) (fun _ _ _ h => h) (.inl ⟨rfl, fun w' hw' => ?_⟩) hSd ?_
    · simp [go_sem, hsz, t2]
    refine wpAnyH_take (i := 4) (v := .agg (optV mini asc)) rfl (by kernel_rfl) (by kernel_rfl) (by kernel_rfl) (fun _ _ _ h => h) (.inl ⟨rfl, fun w' hw' => ?_⟩) hSd ?_
    · simp [execOp, Act.eval, Act.put, hsz, run_build w' 143 _ _ (show Tryz.prog.built 143 [(6, .bool mini), (7, .bool asc)] = some (optV mini asc) by kernel_rfl)]
    refine wpAnyH_ready (rs := [1]) (by kernel_rfl) (by simp) ?_
    refine AllReadyH.cons rfl (fun K9 hK9 => ?_) AllReadyH.nil
    refine ite_of rfl ?_
    go_simp
    refine (newMap_any _).mono ?_
    rintro e w1 ⟨A, rfl, hb1⟩
    go_simp
    refine hK9.out _ _ (below_then hSd hb1) (fun hS1 => ?_)
    have hBw1 : Below w.heap.size w w1 := below_then HBW.out hS1
    refine wpAnyH_ready (rs := [5]) (by kernel_rfl) (by simp) ?_
    refine AllReadyH.cons rfl (fun K8 hK8 => ?_) AllReadyH.nil
    refine ite_of rfl ?_
    go_simp
    refine (Print_any mini asc q r t A w1 (HE.out.below hBw1).rebase (blk_below hS1 HQ.out) X (HRULE.out w1 hBw1)).mono ?_
    rintro e w2 ⟨css, out, rfl, hX, hown, hb2⟩
    go_simp
    refine hK8.out _ _ (below_then hS1 hb2) (fun hS2 => ?_)
    obtain ⟨g, cap, hcss, _, _⟩ := hown.form (List.length_pos_iff.2 (HX.out out hX))
    subst hcss
    refine next_op 6 (.field 129 (.tmp 17) 0) (some 18) (by kernel_rfl) (by kernel_rfl) (.slice (some ⟨g, 0, none⟩) out.length cap) (fun o ho => ?_) hS2 ?_
    · simp [go_sem, ho, hsz, resV, Instr.field, asAgg, run_underlying Tryz.underlying129]
    have hcv := run_convert_bytes_back (P := Tryz.prog) w2 117 9 5 ⟨g, 0, none⟩ cap out Tryz.underlying117 Tryz.underlying5 Tryz.underlying9 (fun j hj => hown.cells rfl j _ (by simp [bv, hj]))
    refine next_op 7 (.convert 117 9 (.tmp 18)) (some 19) (by kernel_rfl) (by kernel_rfl) (.string ⟨out.toArray⟩) (fun o ho => ?_) hS2 ?_
    · unfold execOp
      simp [ho, Act.eval, Act.put, hsz, hcv]
    refine last_val 8 (.assign (.tmp 19)) (some 6) (by kernel_rfl) (by kernel_rfl) (by kernel_rfl) (.string ⟨out.toArray⟩) (fun o ho => ?_) hS2 ?_
    · unfold execOp
      simp [ho, Act.eval, Act.put, hsz]
    simp only [Act.put]
    refine hK' _ _ (Met.intro (HJ.out _ _ ⟨_, ⟨out.toArray⟩, rfl, zs, Sl.new (by simp [hsz]), ⟨by simpa using hX, below_then HBW.out hS2⟩⟩))
  case rest =>
  intro a' W9 hcut
  obtain ⟨F2, s, rfl, hsz2, h6, HR⟩ := hcut
  clear hsz t1 t2 t7 T1 T2 T7 F1
  have hsz := hsz2
  clear hsz2
  have T6 := Lib.hid h6
  have t6 := h6.get
  clear h6
  go_upto_region 999 with (first | ((with_reducible refine wp_cond_w ?_); (conv => arg 1; simp [Act.eval, *]); first | refine condW_t ?_ | refine condW_f ?_) | ((with_reducible refine wpList_skip ?hw ?_); (case hw => simp [Region.wanted, yielded, Act.put, undef, hsz])))
  refine bodyPost_ret (v := .string s) (by simp [results, Tryz.results34, go_sem, hsz, t6]) rfl ?_
  exact ⟨s, rfl, HR.out.1, HR.out.2⟩
end Go.Proofs.YtkfdcbdlcipmfaaGreatFmt
