/- Walks: the printer: the builder of source maps. -/
import Derived.Test.YtkfdcbdlcipmfaaGreatFmtH14
import Derived.Laws.Tables
import Derived.Laws.CopyOwn
import Derived.Laws.Rows
import Derived.Test.YtkfdcbdlcipmfaaGreatFmtH20
import Derived.OrdersHeld
import Derived.Deep.RegionHeld
set_option linter.unusedVariables false
set_option linter.unusedSimpArgs false
namespace Go.Proofs.YtkfdcbdlcipmfaaGreatFmt
open Go.RowKit Css
def chunkV (m : Nat) (asc : Bool) : Array Value := #[.pointer none, .slice none 0 0, .slice none 0 0, .map (some m), .slice none 0 0, .string ⟨#[]⟩, .int .i64 0, .int .i64 0, .int .i64 0, .int .i64 0, .int .i64 0, .int .i64 0, .bool false, .int .i64 0, .int .i64 0, .int .i64 0, .int .i32 (-1), .int .u32 0, .bool false, .bool asc, .bool false, .bool true]
def chunk0 : Array Value := #[.pointer none, .slice none 0 0, .slice none 0 0, .map none, .slice none 0 0, .string ⟨#[]⟩, .int .i64 0, .int .i64 0, .int .i64 0, .int .i64 0, .int .i64 0, .int .i64 0, .bool false, .int .i64 0, .int .i64 0, .int .i64 0, .int .i32 0, .int .u32 0, .bool false, .bool false, .bool false, .bool false]
theorem size156 : (Tryz.prog.info? 156).map (·.size) = some 22 := by kernel_rfl
theorem chunk_one (m : Nat) (asc : Bool) : (chunkV m asc).all (·.oneCell') = true := by simp [chunkV, Value.oneCell']
def RetChunk (asc : Bool) (w : World) (e : Ending) (w' : World) : Prop := ∃ m, e = .returned (.agg (chunkV m asc)) ∧ Below w.heap.size w w'
theorem wpList_built {P : Program} {ops : Array Oper} {rest : List Oper} {o : Oper} {a : Act} {w : World} {Q : Exit → Act → World → Prop} (hg : o.guard = none) (t : TypeId) (parts : Array (Nat × Operand)) (ho : o.op = .build t parts) (vals : Array (Nat × Value)) (hv : (parts.map fun (i, x) => (i, a.eval x)) = vals) (cells : Array Value)
    (hf : P.built t vals.toList = some cells) (h : wpList P ops Q rest (a.put o.dst (.agg cells)) w) : wpList P ops Q (o :: rest) a w := by
  subst hv
  refine wpList_plain hg fun K hK => ?_
  unfold Oper.wp execOp
  simp only [ho, Sem.run_bind, run_build w t _ cells hf, Result.andThen_ok]
  exact hK _ _ h
theorem results_cell {P : Program} {fn : Func} {tmps : Array Value} {s : Nat} {T : TypeId} {g : Nat} {cs : Array Value} {W : World} (hr : fn.results = #[.cell s T]) (ht : tmps.getD s undef = .pointer (some ⟨g, 0, none⟩)) (hl : (loadVar T ⟨g, 0, none⟩).run P W = .ok (.agg cs) W) : (results fn tmps).run P W = .ok (.agg cs) W := by
  unfold results
  rw [hr]
  have ht' : tmps[s]?.getD undef = .pointer (some ⟨g, 0, none⟩) := by rw [← Array.getD_eq_getD_getElem?]; exact ht
  simp [ht', hl, asAddr, Array.mapM_eq_mapM_toList]
theorem chunk_block (w : World) (O : Obj) (o : Obj) : ((w.alloc O).alloc o).heap[w.heap.size]? = some O := by
  rw [Below.heap_alloc _ _ _ (by simp)]; exact heap_alloc_new w O
set_option maxHeartbeats 1600000 in
set_option maxRecDepth 100000 in
theorem chunk_any (asc : Bool) (w : World) : Calls Tryz.prog 55 #[.pointer none, .slice none 0 0, .bool asc] w (RetChunk asc w) := by
  have hmm := @run_makeMap Tryz.prog
  have HBU : Hid (Tryz.prog.built 156 (#[(0, .pointer none), (10, .agg #[.int .i32 (-1)]), (4, .slice none 0 0), (13, .bool asc), (3, .map (some (w.heap.size + 1))), (15, .bool true)] : Array (Nat × Value)).toList = some (chunkV (w.heap.size + 1) asc)) := by show _ = _; kernel_rfl
  have HBL := Lib.hid (chunk_block w (.cells chunk0 156) (.map #[] 0))
  have HB0 : Hid (Below w.heap.size w ((w.alloc (.cells chunk0 156)).alloc (.map #[] 0))) := ((Below.refl _ _).alloc (Nat.le_refl _) _).alloc (by simp) _
  have HB : Hid (Below w.heap.size w (((w.alloc (.cells chunk0 156)).alloc (.map #[] 0)).setRow w.heap.size (chunkV (w.heap.size + 1) asc))) := below_setRow HB0.out (Nat.le_refl _) _
  have HR := Lib.hid (setRow_heap _ w.heap.size chunk0 (chunkV (w.heap.size + 1) asc) 156 (0, 0) HBL.out)
  go_enter Tryz.func55, Tryz.ntmps55
  go_wp2_with (first
    | (refine wpList_built rfl 156 _ rfl #[(0, .pointer none), (10, .agg #[.int .i32 (-1)]), (4, .slice none 0 0), (13, .bool asc), (3, .map (some (w.heap.size + 1))), (15, .bool true)] rfl _ HBU.out ?_)
    | (refine wpList_store_row rfl 156 _ _ rfl w.heap.size (chunkV (w.heap.size + 1) asc) rfl rfl 156 chunk0 HBL.out size156 rfl (chunk_one _ _) ?_))
  as_aux_lemma =>
  have hr := HR.out
  have hb := HB.out
  show bodyPost Tryz.prog Tryz.f55 (RetChunk asc w) Exit.ret _ (((w.alloc (.cells chunk0 156)).alloc (.map #[] 0)).setRow w.heap.size (chunkV (w.heap.size + 1) asc))
  generalize (((w.alloc (.cells chunk0 156)).alloc (.map #[] 0)).setRow w.heap.size (chunkV (w.heap.size + 1) asc)) = W3 at hr hb ⊢
  generalize hm : w.heap.size + 1 = m at hr ⊢
  refine bodyPost_ret (v := .agg (chunkV m asc)) (results_cell rfl rfl (run_loadVar_row W3 w.heap.size 156 156 (chunkV m asc) (0, 0) _ hr Tryz.underlying156 rfl size156)) rfl ?_
  exact ⟨m, rfl, hb⟩
end Go.Proofs.YtkfdcbdlcipmfaaGreatFmt
namespace Go.Proofs.YtkfdcbdlcipmfaaGreatFmt
open Go.RowKit Css
variable {F : Go.Stop.Interp} {W0 : World}
def astV (q : Nat) : Array Value := #[.slice none 0 0, .pointer none, .slice none 0 0, .slice (some ⟨q, 0, none⟩) 1 1, .string ⟨#[]⟩, .int .i32 0, .int .i32 0, .int .i32 0, .slice none 0 0, .map none, .map none, .map none, .slice none 0 0, .slice none 0 0]
def optV (mini asc : Bool) : Array Value := #[.pointer none, .slice none 0 0, .map none, .int .i64 0, .int .u32 0, .int .u16 0, .bool mini, .bool asc, .int .u8 0, .bool false, .int .u8 0, .bool false, .int .u8 0]
def resV (css : Value) : Array Value := #[css, .slice none 0 0, .slice none 0 0, .slice none 0 0, .int .u32 0, .slice none 0 0, .int .i64 0, .int .i64 0, .int .i64 0, .int .i64 0, .int .i64 0, .int .i64 0, .bool false, .int .i64 0, .bool false]
def prV (mini asc : Bool) (A : Addr) (m : Nat) : Array Value := #[.pointer none, .slice none 0 0, .map none, .int .i64 0, .int .u32 0, .int .u16 0, .bool mini, .bool asc, .int .u8 0, .bool false, .int .u8 0, .bool false, .int .u8 0, .slice (some A) 1 1, .slice none 0 0, .slice none 0 0, .map none, .slice none 0 0, .slice none 0 0,
  .pointer none, .slice none 0 0, .slice none 0 0, .map (some m), .slice none 0 0, .string ⟨#[]⟩, .int .i64 0, .int .i64 0, .int .i64 0, .int .i64 0, .int .i64 0, .int .i64 0, .bool false, .int .i64 0, .int .i64 0, .int .i64 0, .int .i32 (-1), .int .u32 0, .bool false, .bool asc, .bool false, .bool true, .int .i64 0, .int .i64 0]
def pr0 : Array Value := #[.pointer none, .slice none 0 0, .map none, .int .i64 0, .int .u32 0, .int .u16 0, .bool false, .bool false, .int .u8 0, .bool false, .int .u8 0, .bool false, .int .u8 0, .slice none 0 0, .slice none 0 0, .slice none 0 0, .map none, .slice none 0 0, .slice none 0 0,
  .pointer none, .slice none 0 0, .slice none 0 0, .map none, .slice none 0 0, .string ⟨#[]⟩, .int .i64 0, .int .i64 0, .int .i64 0, .int .i64 0, .int .i64 0, .int .i64 0, .bool false, .int .i64 0, .int .i64 0, .int .i64 0, .int .i32 0, .int .u32 0, .bool false, .bool false, .bool false, .bool false, .int .i64 0, .int .i64 0]
theorem pr_built (mini asc : Bool) (A : Addr) (m : Nat) : Tryz.prog.built 160 [(0, .agg (optV mini asc)), (1, .agg #[.slice (some A) 1 1]), (2, .slice none 0 0), (7, .agg (chunkV m asc))] = some (prV mini asc A m) := by kernel_rfl
theorem pr_one (mini asc : Bool) (A : Addr) (m : Nat) : (prV mini asc A m).all (·.oneCell') = true := by simp [prV, Value.oneCell']
theorem size160 : (Tryz.prog.info? 160).map (·.size) = some 43 := by kernel_rfl
theorem size129 : (Tryz.prog.info? 129).map (·.size) = some 15 := by kernel_rfl
theorem res_one (A : Option Addr) (k c : Nat) : (resV (.slice A k c)).all (·.oneCell') = true := by simp [resV, Value.oneCell']
theorem size143 : (Tryz.prog.info? 143).map (·.size) = some 13 := by kernel_rfl
theorem size133 : (Tryz.prog.info? 133).map (·.size) = some 1 := by kernel_rfl
def Made (mini asc : Bool) (A : Addr) (W : World) (g : Nat) (w' : World) : Prop := W.heap.size ≤ g ∧ Below W.heap.size W w' ∧ ∃ m, w'.heap[g]? = some (.cells (prV mini asc A m) 160 (0, 0))
set_option maxHeartbeats 8000000 in
set_option maxRecDepth 100000 in
theorem Print_any (mini asc : Bool) (q r : Nat) (t : TypeId) (A : Addr) (w : World) (hE : Env F w w) (hq : w.heap[q]? = some (.cells #[.iface t (.pointer (some ⟨r, 0, none⟩)), .int .i32 0] 81 (0, 0))) (X : List UInt8 → Prop)
    (hrule : ∀ g W', (∀ i, i < w.heap.size → W'.heap[i]? = w.heap[i]?) → Env F w W' → St w.heap.size g mini asc [] W' → Calls Tryz.prog 56 #[.pointer (some ⟨g, 0, none⟩), .agg #[.iface t (.pointer (some ⟨r, 0, none⟩)), .int .i32 0], .int .i32 0, .bool false] W' (fun e w' => e = .returned (.tuple #[]) ∧ ∃ out, X out ∧ Put w.heap.size g mini asc out W' w')) :
    Calls Tryz.prog 45 #[.agg (astV q), .agg #[.slice (some A) 1 1], .agg (optV mini asc)] w (fun e w' => ∃ css out, e = .returned (.agg (resV css)) ∧ X out ∧ w'.ownsRow w.heap.size 5 1 css out.length (bv out) ∧ Below w.heap.size w w') := by
  have HE := Lib.hid hE
  have HQ := Lib.hid hq
  have HRULE := Lib.hid hrule
  clear hE hq hrule
  go_enter Tryz.func45, Tryz.ntmps45
  refine wp_sym (fun T => T.size = 49 ∧ Sl T 0 (.agg (astV q)) ∧ Sl T 1 (.agg #[.slice (some A) 1 1]) ∧ Sl T 2 (.agg (optV mini asc))) ⟨rfl, rfl, rfl, rfl⟩ ?_
  rintro F0 ⟨hsz, h0, h1, h2⟩
  have T0 := Lib.hid h0
  have t0 := h0.get
  clear h0
  have T1 := Lib.hid h1
  have t1 := h1.get
  clear h1
  have T2 := Lib.hid h2
  have t2 := h2.get
  clear h2
  have hZ := Tryz.zeroValue129
  go_upto_region 1 with (fail)
  have hg3 : ((((w.alloc (.cells (astV q) 116)).alloc (.cells #[.slice (some A) 1 1] 133)).alloc (.cells (optV mini asc) 143)).alloc (.cells (resV (.slice none 0 0)) 129)).heap[w.heap.size]? = some (.cells (astV q) 116 (0, 0)) :=
    blk_below (box_below _ _) (blk_below (box_below _ _) (blk_below (box_below _ _) (heap_alloc_new w _)))
  have hg4 : ((((w.alloc (.cells (astV q) 116)).alloc (.cells #[.slice (some A) 1 1] 133)).alloc (.cells (optV mini asc) 143)).alloc (.cells (resV (.slice none 0 0)) 129)).heap[w.heap.size + 1]? = some (.cells #[.slice (some A) 1 1] 133 (0, 0)) := by
    have e : w.heap.size + 1 = (w.alloc (.cells (astV q) 116)).heap.size := by simp
    rw [e]; exact blk_below (box_below _ _) (blk_below (box_below _ _) (heap_alloc_new _ _))
  have hg5 : ((((w.alloc (.cells (astV q) 116)).alloc (.cells #[.slice (some A) 1 1] 133)).alloc (.cells (optV mini asc) 143)).alloc (.cells (resV (.slice none 0 0)) 129)).heap[w.heap.size + 1 + 1]? = some (.cells (optV mini asc) 143 (0, 0)) := by
    have e : w.heap.size + 1 + 1 = ((w.alloc (.cells (astV q) 116)).alloc (.cells #[.slice (some A) 1 1] 133)).heap.size := by simp
    rw [e]; exact blk_below (box_below _ _) (heap_alloc_new _ _)
  have hg6 : ((((w.alloc (.cells (astV q) 116)).alloc (.cells #[.slice (some A) 1 1] 133)).alloc (.cells (optV mini asc) 143)).alloc (.cells (resV (.slice none 0 0)) 129)).heap[w.heap.size + 1 + 1 + 1]? = some (.cells (resV (.slice none 0 0)) 129 (0, 0)) := by
    have e : w.heap.size + 1 + 1 + 1 = (((w.alloc (.cells (astV q) 116)).alloc (.cells #[.slice (some A) 1 1] 133)).alloc (.cells (optV mini asc) 143)).heap.size := by simp
    rw [e]; exact heap_alloc_new _ _
  have HBW : Hid (Below w.heap.size w ((((w.alloc (.cells (astV q) 116)).alloc (.cells #[.slice (some A) 1 1] 133)).alloc (.cells (optV mini asc) 143)).alloc (.cells (resV (.slice none 0 0)) 129))) :=
    ((((Below.refl _ _).alloc (Nat.le_refl _) _).alloc (by simp) _).alloc (by simp; omega) _).alloc (by simp; omega) _
  have HSZ : Hid (((((w.alloc (.cells (astV q) 116)).alloc (.cells #[.slice (some A) 1 1] 133)).alloc (.cells (optV mini asc) 143)).alloc (.cells (resV (.slice none 0 0)) 129)).heap.size = w.heap.size + 4) := by show _ = _; simp
  change Code.wp _ _ _ _ ((((w.alloc (.cells (astV q) 116)).alloc (.cells #[.slice (some A) 1 1] 133)).alloc (.cells (optV mini asc) 143)).alloc (.cells (resV (.slice none 0 0)) 129))
  generalize hW : ((((w.alloc (.cells (astV q) 116)).alloc (.cells #[.slice (some A) 1 1] 133)).alloc (.cells (optV mini asc) 143)).alloc (.cells (resV (.slice none 0 0)) 129)) = W at hg3 hg4 hg5 hg6 HBW HSZ ⊢
  obtain ⟨n, hn⟩ : ∃ n, w.heap.size = n := ⟨_, rfl⟩
  have HN := Lib.hid hn
  rw [hn] at hg3 hg4 hg5 hg6 ⊢
  have H3 := Lib.hid hg3
  have H4 := Lib.hid hg4
  have H5 := Lib.hid hg5
  have H6 := Lib.hid hg6
  clear hn hW hg3 hg4 hg5 hg6 hZ t0 t1 t2 T0 T1 T2
  refine wp_sym (fun T => T.size = 49 ∧ Sl T 3 (.pointer (some ⟨n, 0, none⟩)) ∧ Sl T 4 (.pointer (some ⟨n + 1, 0, none⟩)) ∧ Sl T 5 (.pointer (some ⟨n + 1 + 1, 0, none⟩)) ∧ Sl T 6 (.pointer (some ⟨n + 1 + 1 + 1, 0, none⟩))) ⟨zs, nw, nw, nw, nw⟩ ?_
  clear hsz F0
  rintro F1 ⟨hsz, h3, h4, h5, h6⟩
  have T3 := Lib.hid h3
  have t3 := h3.get
  clear h3
  have T4 := Lib.hid h4
  have t4 := h4.get
  clear h4
  have T5 := Lib.hid h5
  have t5 := h5.get
  clear h5
  have T6 := Lib.hid h6
  have t6 := h6.get
  clear h6
  refine wp_cut (fun a' wx => ∃ T' g, a' = ⟨T', []⟩ ∧ Hid (Made mini asc A W g wx) ∧ T'.size = 49 ∧ Sl T' 3 (.pointer (some ⟨n, 0, none⟩)) ∧ Sl T' 5 (.pointer (some ⟨n + 1 + 1, 0, none⟩)) ∧ Sl T' 6 (.pointer (some ⟨n + 1 + 1 + 1, 0, none⟩)) ∧ Sl T' 7 (.pointer (some ⟨g, 0, none⟩))) ?rest ?first
  case first =>
    intro J K' hJ hK'
    have HJ := Lib.hid hJ
    clear hJ
    have hSd : Below W.heap.size W W.drew := (Below.refl _ _).drew
    refine wp_region_held (S := fun w' => Below W.heap.size W w') (by kernel_rfl) ?_
    change wpAnyH Tryz.prog .any _ _ _ 14 _ _ W.drew
    refine wpAnyH_take (i := 0) (v := .agg (optV mini asc)) rfl (by kernel_rfl) (by kernel_rfl) (by kernel_rfl) (fun _ _ _ h => h) (.inl ⟨rfl, fun w' hw' => ?_⟩) hSd ?_
    · have := run_loadVar_row (P := Tryz.prog) w' (n + 1 + 1) 143 143 (optV mini asc) (0, 0) _ (blk_below hw' H5.out) Tryz.underlying143 rfl size143
      simp [execOp, Act.eval, Act.put, Instr.loadAt, Instr.sureAddr, hsz, t3, t4, t5, asAddr, this]
    refine wpAnyH_take (i := 1) (v := .agg #[.slice (some A) 1 1]) rfl (by kernel_rfl) (by kernel_rfl) (by kernel_rfl) (fun _ _ _ h => h) (.inl ⟨rfl, fun w' hw' => ?_⟩) hSd ?_
    · have := run_loadVar_row (P := Tryz.prog) w' (n + 1) 133 133 #[.slice (some A) 1 1] (0, 0) _ (blk_below hw' H4.out) Tryz.underlying133 rfl size133
      simp [execOp, Act.eval, Act.put, Instr.loadAt, Instr.sureAddr, hsz, t3, t4, t5, asAddr, this]
    refine wpAnyH_take (i := 2) (v := .pointer (some ⟨n, 2, none⟩)) rfl (by kernel_rfl) (by kernel_rfl) (by kernel_rfl) (fun _ _ _ h => h) (.inl ⟨rfl, fun w' hw' => ?_⟩) hSd ?_
    · simp [go_sem, hsz, t3, t4, t5]
    refine wpAnyH_take (i := 3) (v := .slice none 0 0) rfl (by kernel_rfl) (by kernel_rfl) (by kernel_rfl) (fun _ _ _ h => h) (.inl ⟨rfl, fun w' hw' => ?_⟩) hSd ?_
    · have hc : w'.cell? ⟨n, 2, none⟩ = some (.slice none 0 0) := cell_blk (blk_below hw' H3.out) 2
      simp [go_sem, hsz, t3, t4, t5, hc]
    refine wpAnyH_take (i := 4) (v := .pointer (some ⟨n + 1 + 1, 0, none⟩)) rfl (by kernel_rfl) (by kernel_rfl) (by kernel_rfl) (fun _ _ _ h => h) (.inl ⟨rfl, fun w' hw' => ?_⟩) hSd ?_
    · simp [go_sem, hsz, t3, t4, t5]
    refine wpAnyH_take (i := 5) (v := .pointer none) rfl (by kernel_rfl) (by kernel_rfl) (by kernel_rfl) (fun _ _ _ h => h) (.inl ⟨rfl, fun w' hw' => ?_⟩) hSd ?_
    · have hc : w'.cell? ⟨n + 1 + 1, 0, none⟩ = some (.pointer none) := cell_blk (blk_below hw' H5.out) 0
      simp [go_sem, hsz, t3, t4, t5, hc]
    refine wpAnyH_take (i := 6) (v := .pointer (some ⟨n + 1 + 1, 1, none⟩)) rfl (by kernel_rfl) (by kernel_rfl) (by kernel_rfl) (fun _ _ _ h => h) (.inl ⟨rfl, fun w' hw' => ?_⟩) hSd ?_
    · simp [go_sem, hsz, t3, t4, t5]
    refine wpAnyH_take (i := 7) (v := .slice none 0 0) rfl (by kernel_rfl) (by kernel_rfl) (by kernel_rfl) (fun _ _ _ h => h) (.inl ⟨rfl, fun w' hw' => ?_⟩) hSd ?_
    · have hc : w'.cell? ⟨n + 1 + 1, 1, none⟩ = some (.slice none 0 0) := cell_blk (blk_below hw' H5.out) 1
      simp [go_sem, hsz, t3, t4, t5, hc]
    refine wpAnyH_take (i := 8) (v := .pointer (some ⟨n + 1 + 1, 7, none⟩)) rfl (by kernel_rfl) (by kernel_rfl) (by kernel_rfl) (fun _ _ _ h => h) (.inl ⟨rfl, fun w' hw' => ?_⟩) hSd ?_
    · simp [go_sem, hsz, t3, t4, t5]
    refine wpAnyH_take (i := 9) (v := .bool asc) rfl (by kernel_rfl) (by kernel_rfl) (by kernel_rfl) (fun _ _ _ h => h) (.inl ⟨rfl, fun w' hw' => ?_⟩) hSd ?_
    · have hc : w'.cell? ⟨n + 1 + 1, 7, none⟩ = some (.bool asc) := cell_blk (blk_below hw' H5.out) 7
      simp [go_sem, hsz, t3, t4, t5, hc]
    have S8 : Hid (∀ w', Below W.heap.size W w' → Calls Tryz.prog 55 #[.pointer none, .slice none 0 0, .bool asc] w' (RetChunk asc w')) := fun w' _ => chunk_any asc w'
    refine wpAnyH_ready (rs := [10, 12]) (by kernel_rfl) (by simp) ?_
    refine AllReadyH.cons rfl (fun K9 hK9 => ?_) (AllReadyH.cons rfl (fun K9 hK9 => ?_) AllReadyH.nil)
    · refine ite_of rfl ?_
      go_simp
      refine (S8.out _ hSd).mono ?_
      rintro e w1 ⟨m, rfl, hb1⟩
      go_simp
      refine hK9.out _ _ (below_then hSd hb1) (fun hS1 => ?_)
      refine wpAnyH_take (i := 11) (v := .agg (prV mini asc A m)) rfl (by kernel_rfl) (by kernel_rfl) (by kernel_rfl) (fun _ _ _ h => h) (.inl ⟨rfl, fun w' hw' => ?_⟩) hS1 ?_
      · simp [execOp, Act.eval, Act.put, hsz, run_build w' 160 _ _ (pr_built mini asc A m)]
      refine wpAnyH_ready (rs := [12]) (by kernel_rfl) (by simp) ?_
      refine AllReadyH.cons rfl (fun K8 hK8 => ?_) AllReadyH.nil
      refine ite_of rfl ?_
      go_simp
      have hS2 : Below W.heap.size W (w1.alloc (.cells pr0 160)) := hS1.alloc hS1.size _
      refine hK8.out _ _ hS2 (fun _ => ?_)
      refine last_op 13 (.store 160 (.tmp 7) (.tmp 22)) none (by kernel_rfl) (by kernel_rfl) (by kernel_rfl) fun o ho hod => ?_
      refine wp_store_row 160 (.tmp 7) (.tmp 22) ho w1.heap.size (prV mini asc A m) (by simp [Act.eval, Act.put, hsz]) (by simp [Act.eval, Act.put, hsz]) 160 pr0 (heap_alloc_new w1 _) size160 rfl (pr_one _ _ _ _) ?_
      have hS3 := below_setRow (g := w1.heap.size) hS2 hS1.size (prV mini asc A m)
      refine ⟨hS3, ?_⟩
      rw [hod]
      refine hK' _ _ (Met.intro (HJ.out _ _ ⟨_, w1.heap.size, rfl, ⟨hS1.size, hS3, m, setRow_heap _ _ pr0 _ 160 (0, 0) (heap_alloc_new w1 _)⟩, zs, kp, kp, kp, by (repeat (with_reducible refine Sl.set ?_ (by decide))); exact Sl.new (by simp [hsz])⟩))
    · refine ite_of rfl ?_
      go_simp
      have hS0 : Below W.heap.size W (W.alloc (.cells pr0 160)).drew := ((Below.refl _ _).alloc (Nat.le_refl _) _).drew
      refine hK9.out _ _ hS0 (fun _ => ?_)
      refine wpAnyH_ready (rs := [10]) (by kernel_rfl) (by simp) ?_
      refine AllReadyH.cons rfl (fun K8 hK8 => ?_) AllReadyH.nil
      refine ite_of rfl ?_
      go_simp
      refine (S8.out _ hS0).mono ?_
      rintro e w1 ⟨m, rfl, hb1⟩
      go_simp
      refine hK8.out _ _ (below_then hS0 hb1) (fun hS1 => ?_)
      refine wpAnyH_take (i := 11) (v := .agg (prV mini asc A m)) rfl (by kernel_rfl) (by kernel_rfl) (by kernel_rfl) (fun _ _ _ h => h) (.inl ⟨rfl, fun w' hw' => ?_⟩) hS1 ?_
      · simp [execOp, Act.eval, Act.put, hsz, run_build w' 160 _ _ (pr_built mini asc A m)]
      refine last_op 13 (.store 160 (.tmp 7) (.tmp 22)) none (by kernel_rfl) (by kernel_rfl) (by kernel_rfl) fun o ho hod => ?_
      refine wp_store_row 160 (.tmp 7) (.tmp 22) ho W.heap.size (prV mini asc A m) (by simp [Act.eval, Act.put, hsz]) (by simp [Act.eval, Act.put, hsz]) 160 pr0 (blk_below hb1 (heap_alloc_new W _)) size160 rfl (pr_one _ _ _ _) ?_
      have hS3 := below_setRow (g := W.heap.size) hS1 (Nat.le_refl _) (prV mini asc A m)
      refine ⟨hS3, ?_⟩
      rw [hod]
      refine hK' _ _ (Met.intro (HJ.out _ _ ⟨_, W.heap.size, rfl, ⟨(Nat.le_refl _), hS3, m, setRow_heap _ _ pr0 _ 160 (0, 0) (blk_below hb1 (heap_alloc_new W _))⟩, zs, kp, kp, kp, by (repeat (with_reducible refine Sl.set ?_ (by decide))); exact Sl.new (by simp [hsz])⟩))
  case rest =>
  intro a' W9 hcut
  obtain ⟨F2, g, rfl, HM, hsz2, h3, h5, h6, h7⟩ := hcut
  clear hsz t3 t4 t5 t6 T3 T4 T5 T6 F1
  have hsz := hsz2
  clear hsz2
  have T3 := Lib.hid h3
  have t3 := h3.get
  clear h3
  have T5 := Lib.hid h5
  have t5 := h5.get
  clear h5
  have T6 := Lib.hid h6
  have t6 := h6.get
  clear h6
  have T7 := Lib.hid h7
  have t7 := h7.get
  clear h7
  obtain ⟨hgn, hbw, m, hrow⟩ := HM.out
  have HB9 : Hid (Below w.heap.size w W9) := below_then HBW.out hbw
  have HE9 : Hid (Env F w W9) := HE.out.below HB9.out
  have HST9 : Hid (St w.heap.size g mini asc [] W9) := by
    refine ⟨⟨.slice none 0 0, ⟨(cell_blk hrow 3).trans rfl, (cell_blk hrow 5).trans rfl, (cell_blk hrow 6).trans rfl, (cell_blk hrow 7).trans rfl, (cell_blk hrow 9).trans rfl, (cell_blk hrow 17).trans rfl, (cell_blk hrow 18).trans rfl, (cell_blk hrow 15).trans rfl, frozen_blk hrow 15, ?_, ?_⟩, World.ownsRow_nil _ _ _ _⟩, HB9.out.size⟩
    · have := HSZ.out; omega
    · rintro ⟨cs, fr, e⟩
      rw [hrow] at e
      injection e with e
      injection e with _ e _
      exact absurd e (by decide)
  have c3 : W9.cell? ⟨n, 3, none⟩ = some (.slice (some ⟨q, 0, none⟩) 1 1) := (cell_blk (blk_below hbw H3.out) 3).trans rfl
  have q0 : W9.cell? ⟨q, 0, none⟩ = some (.iface t (.pointer (some ⟨r, 0, none⟩))) := (cell_blk (blk_below HB9.out HQ.out) 0).trans rfl
  have q1 : W9.cell? ⟨q, 1, none⟩ = some (.int .i32 0) := (cell_blk (blk_below HB9.out HQ.out) 1).trans rfl
  have H59 := Lib.hid (blk_below hbw H5.out)
  have H69 := Lib.hid (blk_below hbw H6.out)
  have HGN : Hid (n + 1 + 1 ≠ g ∧ n + 1 + 1 + 1 ≠ g) := by
    have h1 := HSZ.out
    have h2 := HN.out
    exact ⟨by omega, by omega⟩
  have HNW : Hid (w.heap.size ≤ n + 1 + 1 + 1) := by have := HN.out; show _ ≤ _; omega
  clear hgn hbw hrow
  go_upto_region 999 with (first | ((with_reducible refine wp_cond_w ?_); (conv => arg 1; simp [Act.eval, *]); first | refine condW_t ?_ | refine condW_f ?_) | ((with_reducible refine wpList_skip ?hw ?_); (case hw => simp [Region.wanted, yielded, Act.put, undef, hsz])))
  refine wp_loop_ghost_k (fun k a' wr => ∃ T', a' = ⟨T', []⟩ ∧ T'.size = 49 ∧ Sl T' 5 (.pointer (some ⟨n + 1 + 1, 0, none⟩)) ∧ Sl T' 6 (.pointer (some ⟨n + 1 + 1 + 1, 0, none⟩)) ∧ Sl T' 7 (.pointer (some ⟨g, 0, none⟩)) ∧ Sl T' 24 (.slice (some ⟨q, 0, none⟩) 1 1) ∧ Sl T' 25 (.int .i64 1) ∧ ∃ i : Nat, Sl T' 26 (.int .i64 i) ∧ i + k = 1 ∧ Hid ((i = 0 → wr = W9) ∧ (i = 1 → ∃ out, X out ∧ Put w.heap.size g mini asc out W9 wr))) 1 ?start ?round
  case start => exact ⟨_, rfl, zs, kp, kp, kp, nw, nw, 0, nw, rfl, ⟨fun _ => rfl, (fun h => by cases h)⟩⟩
  case round =>
    clear hsz t3 t5 t6 t7 T3 T5 T6 T7 F2
    intro gk a' wr hinv J K' hJ hK'
    obtain ⟨F3, rfl, hsz, h5, h6, h7, h24, h25, i, h26, hik, HI⟩ := hinv
    have HJ := Lib.hid hJ
    clear hJ
    have T5 := Lib.hid h5
    have t5 := h5.get
    clear h5
    have T6 := Lib.hid h6
    have t6 := h6.get
    clear h6
    have T7 := Lib.hid h7
    have t7 := h7.get
    clear h7
    have T24 := Lib.hid h24
    have t24 := h24.get
    clear h24
    have T25 := Lib.hid h25
    have t25 := h25.get
    clear h25
    have T26 := Lib.hid h26
    have t26 := h26.get
    clear h26
    rcases Nat.eq_zero_or_pos i with hi | hi
    · subst hi
      have hwr := HI.out.1 rfl
      subst hwr
      have hgk : 0 < gk := by omega
      have HBX := Lib.hid (box_below (.cells #[.iface t (.pointer (some ⟨r, 0, none⟩)), .int .i32 0] 81) wr)
      go_upto_region 999 with (first | ((with_reducible refine wp_cond_w ?_); (conv => arg 1; simp [Act.eval, *]); first | refine condW_t ?_ | refine condW_f ?_) | ((with_reducible refine wpList_skip ?hw ?_); (case hw => simp [Region.wanted, yielded, Act.put, undef, hsz])) | (go_at_call 56; go_must (refine (HRULE.out g _ (fun j hj => (HBX.out.block j (Nat.lt_of_lt_of_le hj HB9.out.size)).trans (HB9.out.block j hj)) (HE9.out.below HBX.out) (HST9.out.grow HBX.out)).mono ?_; rintro e' w2 ⟨rfl, out, hX, hput⟩; have HX := Lib.hid hX; have HPUT := Lib.hid hput; clear hX hput)))
      refine Handed.intro 0 hgk (HJ.out _ _ _ ⟨_, rfl, zs, kp, kp, kp, kp, kp, 1, ?_, rfl, ⟨(fun h => by cases h), fun _ => ⟨out, HX.out, Put.of_below HST9.out HBX.out HPUT.out⟩⟩⟩)
      exact Sl.new (by simp [hsz])
    · have hi1 : i = 1 := by omega
      subst hi1
      obtain ⟨out, hX, hput⟩ := HI.out.2 rfl
      have HX := Lib.hid hX
      have HPUT := Lib.hid hput
      obtain ⟨⟨css, hpr, hown⟩, hbase⟩ := hput.st
      obtain ⟨A2, cap2, rfl⟩ := own_slice hown
      have g15 := hpr.css
      have g17 := hpr.legal
      have g18 := hpr.metas
      have o8 : wr.cell? ⟨n + 1 + 1, 8, none⟩ = some (.int .u8 0) := (cell_blk (ke_blk hput.ke H59.out (by decide) HGN.out.1) 8).trans rfl
      have H6R := Lib.hid (ke_blk hput.ke H69.out (by decide) HGN.out.2)
      have HOWN := Lib.hid hown
      have HPK := Lib.hid hpr.lt
      clear hpr hown hX hput c3 q0 q1
      have HNB : Hid (wr.heap.size ≠ n + 1 + 1 + 1) := by
        have := (Array.getElem?_eq_some_iff.1 H6R.out).1
        show _ ≠ _; omega
      go_upto_region 8 with (first | ((with_reducible refine wp_cond_w ?_); (conv => arg 1; simp [Act.eval, *]); first | refine condW_t ?_ | refine condW_f ?_) | ((with_reducible refine wpList_skip ?hw ?_); (case hw => simp [Region.wanted, yielded, Act.put, undef, hsz])))
      change Code.wp _ _ _ _ (wr.alloc (.cells (resV (.slice A2 out.length cap2)) 129))
      have hb2 : Below wr.heap.size wr (wr.alloc (.cells (resV (.slice A2 out.length cap2)) 129)) := box_below _ _
      have HN2 : Hid ((wr.alloc (.cells (resV (.slice A2 out.length cap2)) 129)).heap[wr.heap.size]? = some (.cells (resV (.slice A2 out.length cap2)) 129 (0, 0))) := heap_alloc_new wr _
      have H62 := Lib.hid (blk_below hb2 H6R.out)
      have p8 : (wr.alloc (.cells (resV (.slice A2 out.length cap2)) 129)).cell? ⟨n + 1 + 1, 8, none⟩ = some (.int .u8 0) := below_cell hb2 o8
      have HOW2 : Hid ((wr.alloc (.cells (resV (.slice A2 out.length cap2)) 129)).ownsRow w.heap.size 5 1 (.slice A2 out.length cap2) out.length (bv out)) := own_keep HOWN.out fun q hq => hb2.block q (own_lt HOWN.out hq).1
      have HBF : Hid (Below w.heap.size w (wr.alloc (.cells (resV (.slice A2 out.length cap2)) 129))) := by
        have hk := HPUT.out.ke
        have h1 : Below w.heap.size w wr := HB9.out.trans ⟨hk.os, hk.tape, hk.output, hk.size, fun j hj => hk.low j hj⟩
        exact h1.trans (hb2.mono h1.size)
      generalize hW2 : wr.alloc (.cells (resV (.slice A2 out.length cap2)) 129) = W2 at HN2 H62 p8 HOW2 HBF ⊢
      generalize hnb : wr.heap.size = nb at HN2 HNB ⊢
      clear hb2 hW2 hnb o8 g15 g17 g18
      go_upto_region 10 with (first | ((with_reducible refine wp_cond_w ?_); (conv => arg 1; simp [Act.eval, *]); first | refine condW_t ?_ | refine condW_f ?_) | ((with_reducible refine wpList_skip ?hw ?_); (case hw => simp [Region.wanted, yielded, Act.put, undef, hsz])))
      refine wp_region_lit ?_
      refine wpList_load_row rfl 129 (.tmp 10) rfl nb (by simp [Act.eval, Act.put, hsz]) 129 (resV (.slice A2 out.length cap2)) (0, 0) _ HN2.out Tryz.underlying129 rfl size129 ?_
      refine wpList_store_row rfl 129 (.tmp 6) (.tmp 48) rfl (n + 1 + 1 + 1) (resV (.slice A2 out.length cap2)) (by simp [Act.eval, Act.put, hsz, t6]) (by simp [Act.eval, Act.put, hsz]) 129 (resV (.slice none 0 0)) H62.out size129 rfl (res_one _ _ _) ?_
      have hr9 := setRow_heap W2 (n + 1 + 1 + 1) (resV (.slice none 0 0)) (resV (.slice A2 out.length cap2)) 129 (0, 0) H62.out
      have hb9 := below_setRow HBF.out HNW.out (resV (.slice A2 out.length cap2))
      have ho9 : (W2.setRow (n + 1 + 1 + 1) (resV (.slice A2 out.length cap2))).ownsRow w.heap.size 5 1 (.slice A2 out.length cap2) out.length (bv out) := own_keep HOW2.out fun q hq => setRow_other _ _ _ _ (by
        rintro rfl
        have h1 := (own_lt HOW2.out hq).2.2
        rw [H62.out] at h1
        obtain ⟨cs, fr, e⟩ := h1
        injection e with e
        injection e with _ e _
        exact absurd e (by decide))
      generalize W2.setRow (n + 1 + 1 + 1) (resV (.slice A2 out.length cap2)) = W3 at hr9 hb9 ho9 ⊢
      have HR9 := Lib.hid hr9
      have HBB := Lib.hid hb9
      have HOO := Lib.hid ho9
      clear hr9 hb9 ho9
      go_upto_region 999 with (first | ((with_reducible refine wp_cond_w ?_); (conv => arg 1; simp [Act.eval, *]); first | refine condW_t ?_ | refine condW_f ?_) | ((with_reducible refine wpList_skip ?hw ?_); (case hw => simp [Region.wanted, yielded, Act.put, undef, hsz])))
      refine bodyPost_ret (v := .agg (resV (.slice A2 out.length cap2))) (results_cell (s := 6) (T := 129) (g := n + 1 + 1 + 1) rfl (by simp [hsz, t6]) (run_loadVar_row _ _ 129 129 _ (0, 0) _ HR9.out Tryz.underlying129 rfl size129)) rfl ?_
      exact ⟨_, rfl, out, HX.out, HOO.out, HBB.out⟩
end Go.Proofs.YtkfdcbdlcipmfaaGreatFmt
