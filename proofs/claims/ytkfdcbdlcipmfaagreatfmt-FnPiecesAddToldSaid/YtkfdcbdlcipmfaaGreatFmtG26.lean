/- Walks: printed, At. -/
import Derived.Test.YtkfdcbdlcipmfaaGreatFmtG24
import Derived.Test.YtkfdcbdlcipmfaaGreatFmtG25
import Derived.Test.YtkfdcbdlcipmfaaGreatFmtG15
import Derived.Test.YtkfdcbdlcipmfaaGreatFmtG08
import Derived.Test.YtkfdcbdlcipmfaaGreatFmtG14
import Derived.Laws.IdiomStrings
set_option linter.unusedVariables false
set_option linter.unusedSimpArgs false
namespace Go.Proofs.YtkfdcbdlcipmfaaGreatFmt
open Go.RowKit Css
variable {F : Go.Stop.Interp} {W0 w w' : World}
theorem Env.rebase (h : Env F W0 w) : Env F w w := ⟨⟨h.tabs, h.case_, h.fold, h.tape⟩, fun _ _ => rfl, Nat.le_refl _, rfl⟩
def RetPrinted (X : List UInt8 → Prop) (w : World) (e : Ending) (w' : World) : Prop := ∃ s : ByteArray, e = .returned (.string s) ∧ X s.data.toList ∧ Below w.heap.size w w'
set_option maxHeartbeats 8000000 in
set_option maxRecDepth 100000 in
theorem printed_any (mini asc : Bool) (r : Nat) (t : TypeId) (w : World) (hE : Env F w w) (X : List UInt8 → Prop) (hX : ∀ out, X out → out ≠ [])
    (hrule : ∀ Wp, Below w.heap.size w Wp → ∀ g W', (∀ i, i < Wp.heap.size → W'.heap[i]? = Wp.heap[i]?) → Env F Wp W' → St Wp.heap.size g mini asc [] W' → Calls Tryz.prog 56 #[.pointer (some ⟨g, 0, none⟩), .agg #[.iface t (.pointer (some ⟨r, 0, none⟩)), .int .i32 0], .int .i32 0, .bool false] W' (fun e w' => e = .returned (.tuple #[]) ∧ ∃ out, X out ∧ Put Wp.heap.size g mini asc out W' w')) :
    Calls Tryz.prog 34 #[.iface t (.pointer (some ⟨r, 0, none⟩)), .bool mini, .bool asc] w (RetPrinted X w) := by
  have HE := Lib.hid hE
  have HX := Lib.hid hX
  have HRULE := Lib.hid hrule
  clear hE hX hrule
  go_enter Tryz.func34, Tryz.ntmps34
  refine wp_sym (fun T => T.size = 20 ∧ Sl T 0 (.iface t (.pointer (some ⟨r, 0, none⟩))) ∧ Sl T 1 (.bool mini) ∧ Sl T 2 (.bool asc)) ⟨rfl, rfl, rfl, rfl⟩ ?_
  rintro F0 ⟨hsz, h0, h1, h2⟩
  have T0 := Lib.hid h0
  have t0 := h0.get
  clear h0
  have T1 := Lib.hid h1
  have t1 := h1.get
  clear h1
  have T2 := Lib.hid h2
  have t2 := h2.get
  clear h2
  go_upto_region 2 with (fail)
  change Code.wp _ _ _ _ ((w.alloc (.cells #[.iface t (.pointer (some ⟨r, 0, none⟩)), .int .i32 0] 81)).alloc (.cells (astV w.heap.size) 116))
  have hq : ((w.alloc (.cells #[.iface t (.pointer (some ⟨r, 0, none⟩)), .int .i32 0] 81)).alloc (.cells (astV w.heap.size) 116)).heap[w.heap.size]? = some (.cells #[.iface t (.pointer (some ⟨r, 0, none⟩)), .int .i32 0] 81 (0, 0)) := blk_below (box_below _ _) (heap_alloc_new w _)
  have ha : ((w.alloc (.cells #[.iface t (.pointer (some ⟨r, 0, none⟩)), .int .i32 0] 81)).alloc (.cells (astV w.heap.size) 116)).heap[w.heap.size + 1]? = some (.cells (astV w.heap.size) 116 (0, 0)) := by
    have e : w.heap.size + 1 = (w.alloc (.cells #[.iface t (.pointer (some ⟨r, 0, none⟩)), .int .i32 0] 81)).heap.size := by simp
    rw [e]; exact heap_alloc_new _ _
  have HBW : Hid (Below w.heap.size w ((w.alloc (.cells #[.iface t (.pointer (some ⟨r, 0, none⟩)), .int .i32 0] 81)).alloc (.cells (astV w.heap.size) 116))) := ((Below.refl _ _).alloc (Nat.le_refl _) _).alloc (by simp) _
  generalize hW : ((w.alloc (.cells #[.iface t (.pointer (some ⟨r, 0, none⟩)), .int .i32 0] 81)).alloc (.cells (astV w.heap.size) 116)) = W at hq ha HBW ⊢
  obtain ⟨q, hqe⟩ : ∃ q, w.heap.size = q := ⟨_, rfl⟩
  rw [hqe] at hq ha ⊢
  have HQ := Lib.hid hq
  have HA := Lib.hid ha
  clear hW hqe hq ha t0 T0
  refine wp_sym (fun T => T.size = 20 ∧ Sl T 1 (.bool mini) ∧ Sl T 2 (.bool asc) ∧ Sl T 7 (.pointer (some ⟨q + 1, 0, none⟩))) ⟨zs, kp, kp, nw⟩ ?_
  clear hsz t1 t2 T1 T2 F0
  rintro F1 ⟨hsz, h1, h2, h7⟩
  have T1 := Lib.hid h1
  have t1 := h1.get
  clear h1
  have T2 := Lib.hid h2
  have t2 := h2.get
  clear h2
  have T7 := Lib.hid h7
  have t7 := h7.get
  clear h7
  refine wp_cut (fun a' wx => ∃ T' s, a' = ⟨T', []⟩ ∧ T'.size = 20 ∧ Sl T' 6 (.string s) ∧ Hid (X s.data.toList ∧ Below w.heap.size w wx)) ?rest ?first
  case first =>
    intro J K' hJ hK'
    have HJ := Lib.hid hJ
    clear hJ
    have hSd : Below W.heap.size W W.drew := (Below.refl _ _).drew
    refine wp_region_held (S := fun w' => Below W.heap.size W w') (by kernel_rfl) ?_
    change wpAnyH Tryz.prog .any _ _ _ 9 _ _ W.drew
    refine wpAnyH_take (i := 0) (v := .agg (astV q)) rfl (by kernel_rfl) (by kernel_rfl) (by kernel_rfl) (fun _ _ _ h => h) (.inl ⟨rfl, fun w' hw' => ?_⟩) hSd ?_
    · have := run_loadVar_row (P := Tryz.prog) w' (q + 1) 116 116 (astV q) (0, 0) _ (blk_below hw' HA.out) Tryz.underlying116 rfl (show (Tryz.prog.info? 116).map (·.size) = some 14 by kernel_rfl)
      simp [execOp, Act.eval, Act.put, Instr.loadAt, Instr.sureAddr, hsz, t7, asAddr, this]
    refine wpAnyH_take (i := 2) (v := .bool mini) rfl (by kernel_rfl) (by kernel_rfl) (by kernel_rfl) (fun _ _ _ h => h) (.inl ⟨rfl, fun w' hw' => ?_⟩) hSd ?_
    · simp [go_sem, hsz, t1]
    refine wpAnyH_take (i := 3) (v := .bool asc) rfl (by kernel_rfl) (by kernel_rfl) (by kernel_rfl) (fun _ _ _ h => h) (.inl ⟨rfl, fun w' hw' => ?_⟩) hSd ?_
    · simp [go_sem, hsz, t2]
    refine wpAnyH_take (i := 4) (v := .agg (optV mini asc)) rfl (by kernel_rfl) (by kernel_rfl) (by kernel_rfl) (fun _ _ _ h => h) (.inl ⟨rfl, fun w' hw' => ?_⟩) hSd ?_
    · simp [execOp, Act.eval, Act.put, hsz, run_build w' 143 _ _ (show Tryz.prog.built 143 [(6, .bool mini), (7, .bool asc)] = some (optV mini asc) by kernel_rfl)]
    refine wpAnyH_ready (rs := [1]) (by kernel_rfl) (by simp) ?_
    refine AllReadyH.cons rfl (fun K9 hK9 => ?_) AllReadyH.nil
    refine ite_of rfl ?_
    go_simp
    refine (newMap_any _).mono ?_
    rintro e w1 ⟨A, rfl, hb1⟩
    go_simp
    refine hK9.out _ _ (below_then hSd hb1) (fun hS1 => ?_)
    have hBw1 : Below w.heap.size w w1 := below_then HBW.out hS1
    refine wpAnyH_ready (rs := [5]) (by kernel_rfl) (by simp) ?_
    refine AllReadyH.cons rfl (fun K8 hK8 => ?_) AllReadyH.nil
    refine ite_of rfl ?_
    go_simp
    refine (Print_any mini asc q r t A w1 (HE.out.below hBw1).rebase (blk_below hS1 HQ.out) X (HRULE.out w1 hBw1)).mono ?_
    rintro e w2 ⟨css, out, rfl, hX, hown, hb2⟩
    go_simp
    refine hK8.out _ _ (below_then hS1 hb2) (fun hS2 => ?_)
    obtain ⟨g, cap, hcss, _, _⟩ := hown.form (List.length_pos_iff.2 (HX.out out hX))
    subst hcss
    refine next_op 6 (.field 129 (.tmp 17) 0) (some 18) (by kernel_rfl) (by kernel_rfl) (.slice (some ⟨g, 0, none⟩) out.length cap) (fun o ho => ?_) hS2 ?_
    · simp [go_sem, ho, hsz, resV, Instr.field, asAgg, run_underlying Tryz.underlying129]
    have hcv := run_convert_bytes_back (P := Tryz.prog) w2 117 9 5 ⟨g, 0, none⟩ cap out Tryz.underlying117 Tryz.underlying5 Tryz.underlying9 (fun j hj => hown.cells rfl j _ (by simp [bv, hj]))
    refine next_op 7 (.convert 117 9 (.tmp 18)) (some 19) (by kernel_rfl) (by kernel_rfl) (.string ⟨out.toArray⟩) (fun o ho => ?_) hS2 ?_
    · unfold execOp
      simp [ho, Act.eval, Act.put, hsz, hcv]
    refine last_val 8 (.assign (.tmp 19)) (some 6) (by kernel_rfl) (by kernel_rfl) (by kernel_rfl) (.string ⟨out.toArray⟩) (fun o ho => ?_) hS2 ?_
    · unfold execOp
      simp [ho, Act.eval, Act.put, hsz]
    simp only [Act.put]
    refine hK' _ _ (Met.intro (HJ.out _ _ ⟨_, ⟨out.toArray⟩, rfl, zs, Sl.new (by simp [hsz]), ⟨by simpa using hX, below_then HBW.out hS2⟩⟩))
  case rest =>
  intro a' W9 hcut
  obtain ⟨F2, s, rfl, hsz2, h6, HR⟩ := hcut
  clear hsz t1 t2 t7 T1 T2 T7 F1
  have hsz := hsz2
  clear hsz2
  have T6 := Lib.hid h6
  have t6 := h6.get
  clear h6
  go_upto_region 999 with (first | ((with_reducible refine wp_cond_w ?_); (conv => arg 1; simp [Act.eval, *]); first | refine condW_t ?_ | refine condW_f ?_) | ((with_reducible refine wpList_skip ?hw ?_); (case hw => simp [Region.wanted, yielded, Act.put, undef, hsz])))
  refine bodyPost_ret (v := .string s) (by simp [results, Tryz.results34, go_sem, hsz, t6]) rfl ?_
  exact ⟨s, rfl, HR.out.1, HR.out.2⟩
end Go.Proofs.YtkfdcbdlcipmfaaGreatFmt
namespace Go.Proofs.YtkfdcbdlcipmfaaGreatFmt
open Go.RowKit Css
def bsOf (l : List UInt8) : ByteArray := ⟨l.toArray⟩
theorem bsOf_list (l : List UInt8) : (bsOf l).data.toList = l := by simp [bsOf]
theorem bsOf_size (l : List UInt8) : (bsOf l).size = l.length := by show l.toArray.size = _; simp
theorem by8_mod (c : Int) : ((by8 c).toNat : Int) = c % 256 := by
  unfold by8; rw [UInt8.toNat_ofNat']; omega
theorem conv_fact (w : World) (cs : List Int) (fr : Nat × Nat) (n : Nat) (hn : n = cs.length) (vs : Array Value) (hv : vs = ((cs.map by8).map fun b => Value.int .u8 (b.toNat : Int)).toArray) :
    (convert 117 9 (.slice (some ⟨w.heap.size, 0, none⟩) n n)).run Tryz.prog (w.alloc (.cells vs 5 fr)) = .ok (.string (bsOf (cs.map by8))) (w.alloc (.cells vs 5 fr)) := by
  subst hn
  have := run_convert_bytes_back (P := Tryz.prog) (w.alloc (.cells vs 5 fr)) 117 9 5 ⟨w.heap.size, 0, none⟩ cs.length (cs.map by8) Tryz.underlying117 Tryz.underlying5 Tryz.underlying9 (by
    intro j hj
    have e : (⟨w.heap.size, 0, none⟩ : Addr).add j = ⟨w.heap.size, j, none⟩ := by
      unfold Addr.add; split
      · rename_i h; subst h; rfl
      · simp
    have hj2 : j < cs.length := by simpa using hj
    rw [e, World.cell?_alloc_mark, hv]
    simp [hj2])
  rw [List.length_map] at this
  exact this
section
variable {x y : Int}
theorem i64_and63 (h₀ : 0 ≤ x) (h₁ : x < 2147483648) : bits .and .i64 x 63 = x % 64 := bits_mask .i64 31 (by decide) wraps_i64 6 (by decide) x h₀ (by omega)
theorem i64_or5 (hx₀ : 0 ≤ x) (hx : x % 32 = 0) (hx₁ : x < 2147483648) (h₀ : 0 ≤ y) (h₁ : y < 32) : bits .or .i64 x y = x + y :=
  bits_join .i64 31 (by decide) wraps_i64 5 x y hx₀ hx hx₁ h₀ h₁ (by omega)
theorem i64_or4 (hx₀ : 0 ≤ x) (hx : x % 16 = 0) (hx₁ : x < 2147483648) (h₀ : 0 ≤ y) (h₁ : y < 16) : bits .or .i64 x y = x + y :=
  bits_join .i64 31 (by decide) wraps_i64 4 x y hx₀ hx hx₁ h₀ h₁ (by omega)
end
def RetS (l : List UInt8) (w : World) (e : Ending) (w' : World) : Prop := e = .returned (.string (bsOf l)) ∧ Below w.heap.size w w'
set_option maxHeartbeats 800000 in
set_option maxRecDepth 100000 in
theorem enc_a (c : Int) (h0 : -2 ≤ c) (h1 : c < 128) (w : World) : Calls Tryz.prog 60 #[.int .i64 c] w (RetS [by8 c] w) := by
  have hcv := conv_fact w [c] (0, 0) 1 rfl #[Value.int IntKind.u8 (c % 256)] (by simp [by8_mod])
  go_enter Tryz.func60, Tryz.ntmps60
  go_wp2_with fail
  go_ret
  exact ⟨rfl, (Below.refl _ _).alloc (Nat.le_refl _) _⟩
set_option maxHeartbeats 800000 in
set_option maxRecDepth 100000 in
theorem enc_b (c : Int) (h0 : 128 ≤ c) (h1 : c < 2048) (w : World) : Calls Tryz.prog 60 #[.int .i64 c] w (RetS [by8 (192 + c / 64), by8 (128 + c % 64)] w) := by
  have k1 : bits .or .i64 192 (c / 64) = 192 + c / 64 := i64_or6 (by omega) (by omega) (by omega) (by omega) (by omega)
  have k2 : bits .and .i64 c 63 = c % 64 := i64_and63 (by omega) (by omega)
  have k3 : bits .or .i64 128 (c % 64) = 128 + c % 64 := i64_or6 (by omega) (by omega) (by omega) (by omega) (by omega)
  have hcv := conv_fact w [192 + c / 64, 128 + c % 64] (0, 0) 2 rfl #[Value.int IntKind.u8 (192 + c / 64), Value.int IntKind.u8 (128 + c % 64)] (by simp [by8_mod]; omega)
  go_enter Tryz.func60, Tryz.ntmps60
  go_wp2_with fail
  go_ret
  exact ⟨rfl, (Below.refl _ _).alloc (Nat.le_refl _) _⟩
set_option maxHeartbeats 800000 in
set_option maxRecDepth 100000 in
theorem enc_c (c : Int) (h0 : 2048 ≤ c) (h1 : c < 65536) (w : World) : Calls Tryz.prog 60 #[.int .i64 c] w (RetS [by8 (224 + c / 4096), by8 (128 + c / 64 % 64), by8 (128 + c % 64)] w) := by
  have k1 : bits .or .i64 224 (c / 4096) = 224 + c / 4096 := i64_or5 (by omega) (by omega) (by omega) (by omega) (by omega)
  have k2 : bits .and .i64 c 63 = c % 64 := i64_and63 (by omega) (by omega)
  have k3 : bits .or .i64 128 (c % 64) = 128 + c % 64 := i64_or6 (by omega) (by omega) (by omega) (by omega) (by omega)
  have k4 : bits .and .i64 (c / 64) 63 = c / 64 % 64 := i64_and63 (by omega) (by omega)
  have k5 : bits .or .i64 128 (c / 64 % 64) = 128 + c / 64 % 64 := i64_or6 (by omega) (by omega) (by omega) (by omega) (by omega)
  have hcv := conv_fact w [224 + c / 4096, 128 + c / 64 % 64, 128 + c % 64] (0, 0) 3 rfl #[Value.int IntKind.u8 (224 + c / 4096), Value.int IntKind.u8 (128 + c / 64 % 64), Value.int IntKind.u8 (128 + c % 64)] (by simp [by8_mod]; omega)
  go_enter Tryz.func60, Tryz.ntmps60
  go_wp2_with fail
  go_ret
  exact ⟨rfl, (Below.refl _ _).alloc (Nat.le_refl _) _⟩
set_option maxHeartbeats 800000 in
set_option maxRecDepth 100000 in
theorem enc_d (c : Int) (h0 : 65536 ≤ c) (h1 : c ≤ 1114111) (w : World) : Calls Tryz.prog 60 #[.int .i64 c] w (RetS [by8 (240 + c / 262144), by8 (128 + c / 4096 % 64), by8 (128 + c / 64 % 64), by8 (128 + c % 64)] w) := by
  have k1 : bits .or .i64 240 (c / 262144) = 240 + c / 262144 := i64_or4 (by omega) (by omega) (by omega) (by omega) (by omega)
  have k2 : bits .and .i64 c 63 = c % 64 := i64_and63 (by omega) (by omega)
  have k3 : bits .or .i64 128 (c % 64) = 128 + c % 64 := i64_or6 (by omega) (by omega) (by omega) (by omega) (by omega)
  have k4 : bits .and .i64 (c / 64) 63 = c / 64 % 64 := i64_and63 (by omega) (by omega)
  have k5 : bits .or .i64 128 (c / 64 % 64) = 128 + c / 64 % 64 := i64_or6 (by omega) (by omega) (by omega) (by omega) (by omega)
  have k6 : bits .and .i64 (c / 4096) 63 = c / 4096 % 64 := i64_and63 (by omega) (by omega)
  have k7 : bits .or .i64 128 (c / 4096 % 64) = 128 + c / 4096 % 64 := i64_or6 (by omega) (by omega) (by omega) (by omega) (by omega)
  have hcv := conv_fact w [240 + c / 262144, 128 + c / 4096 % 64, 128 + c / 64 % 64, 128 + c % 64] (0, 0) 4 rfl #[Value.int IntKind.u8 (240 + c / 262144), Value.int IntKind.u8 (128 + c / 4096 % 64), Value.int IntKind.u8 (128 + c / 64 % 64), Value.int IntKind.u8 (128 + c % 64)] (by simp [by8_mod]; omega)
  go_enter Tryz.func60, Tryz.ntmps60
  go_wp2_with fail
  go_ret
  exact ⟨rfl, (Below.refl _ _).alloc (Nat.le_refl _) _⟩
theorem encoded_any (c : Int) (h0 : -2 ≤ c) (h1 : c ≤ 1114111) (w : World) : Calls Tryz.prog 60 #[.int .i64 c] w (RetS (enc1 c) w) := by
  unfold enc1
  by_cases c1 : c < 128
  · rw [if_pos c1]; exact enc_a c h0 c1 w
  · rw [if_neg c1]
    by_cases c2 : c < 2048
    · rw [if_pos c2]; exact enc_b c (by omega) c2 w
    · rw [if_neg c2]
      by_cases c3 : c < 65536
      · rw [if_pos c3]; exact enc_c c (by omega) c3 w
      · rw [if_neg c3]; exact enc_d c (by omega) h1 w
end Go.Proofs.YtkfdcbdlcipmfaaGreatFmt
namespace Go.Proofs.YtkfdcbdlcipmfaaGreatFmt
open Go.RowKit Css
def ToU (b : Nat) (s : ByteArray) (ds : List Int) (cv : Value) (op : Bool) (w : World) (e : Ending) (w' : World) : Prop := e = .returned (.tuple #[]) ∧ To b s ds cv op w w'
theorem peek_z {b : Nat} {s : ByteArray} {ds : List Int} {cv : Value} {op : Bool} {w : World} (h : LX b s ds cv op w) :
    Calls Tryz.prog 59 #[.pointer (some ⟨b, 0, none⟩), .int .i64 0] w (RetI (pk ds 0) w) := peek_any h 0 (by decide)
theorem peek_1 {b : Nat} {s : ByteArray} {ds : List Int} {cv : Value} {op : Bool} {w : World} (h : LX b s ds cv op w) :
    Calls Tryz.prog 59 #[.pointer (some ⟨b, 0, none⟩), .int .i64 1] w (RetI (pk ds 1) w) := peek_any h 1 (by decide)
theorem peek_2 {b : Nat} {s : ByteArray} {ds : List Int} {cv : Value} {op : Bool} {w : World} (h : LX b s ds cv op w) :
    Calls Tryz.prog 59 #[.pointer (some ⟨b, 0, none⟩), .int .i64 2] w (RetI (pk ds 2) w) := peek_any h 2 (by decide)
theorem peek_3 {b : Nat} {s : ByteArray} {ds : List Int} {cv : Value} {op : Bool} {w : World} (h : LX b s ds cv op w) :
    Calls Tryz.prog 59 #[.pointer (some ⟨b, 0, none⟩), .int .i64 3] w (RetI (pk ds 3) w) := peek_any h 3 (by decide)
section
variable {b : Nat} {s : ByteArray} {ds : List Int} {cv : Value} {op : Bool} {w : World}
set_option maxHeartbeats 800000 in
set_option maxRecDepth 100000 in
theorem newline_any (h : LX b s ds cv op w) : Calls Tryz.prog 93 #[.pointer (some ⟨b, 0, none⟩)] w (ToU b s (newline ds) cv op w) := by
  have HL := Lib.hid h
  clear h
  cases h1 : (pk ds 0 == 13)
  · have H1 : Hid (newline ds = ds.tail) := by show _ = _; unfold newline; rw [if_neg]; intro hx; simp [hx.1] at h1
    go_enter Tryz.func93, Tryz.ntmps93
    go_wp2_with fail
    refine (take_any HL.out).mono ?_
    rintro e w1 ⟨rfl, ht⟩
    have HT := Lib.hid ht
    clear ht
    go_wp2_with fail
    go_end0
    exact ⟨rfl, by rw [H1.out]; exact HT.out⟩
  · have h1' : pk ds 0 = 13 := by simpa using h1
    cases h2 : (pk ds.tail 0 == 10)
    · have H1 : Hid (newline ds = ds.tail) := by show _ = _; unfold newline; rw [if_neg]; intro hx; simp [hx.2] at h2
      have H1' := Lib.hid h1'
      clear h1'
      go_enter Tryz.func93, Tryz.ntmps93
      go_wp2_with fail
      refine (take_any HL.out).mono ?_
      rintro e w1 ⟨rfl, ht⟩
      have HT := Lib.hid ht
      clear ht
      go_wp2_with fail
      refine (peek_z HT.out.lx).mono ?_
      rintro e w1 ⟨rfl, rfl⟩
      go_wp2_with fail
      go_end0
      exact ⟨rfl, by rw [H1.out]; exact HT.out⟩
    · have h2' : pk ds.tail 0 = 10 := by simpa using h2
      have H1 : Hid (newline ds = ds.tail.tail) := by show _ = _; unfold newline; rw [if_pos ⟨h1', h2'⟩]
      clear h1' h2'
      go_enter Tryz.func93, Tryz.ntmps93
      go_wp2_with fail
      refine (take_any HL.out).mono ?_
      rintro e w1 ⟨rfl, ht⟩
      have HT := Lib.hid ht
      clear ht
      go_wp2_with fail
      refine (peek_z HT.out.lx).mono ?_
      rintro e w1 ⟨rfl, rfl⟩
      go_wp2_with fail
      refine (take_any HT.out.lx).mono ?_
      rintro e w2 ⟨rfl, ht2⟩
      have HT2 := Lib.hid ht2
      clear ht2
      go_wp2_with fail
      go_end0
      exact ⟨rfl, by rw [H1.out]; exact ⟨HT2.out.lx, HT.out.lk.trans HT2.out.lk⟩⟩
set_option maxHeartbeats 800000 in
set_option maxRecDepth 100000 in
theorem digits_any (h : LX b s ds cv op w) : Calls Tryz.prog 94 #[.pointer (some ⟨b, 0, none⟩)] w (ToU b s (digits ds) cv op w) := by
  have HL := Lib.hid h
  clear h
  rename World => w0
  go_enter Tryz.func94, Tryz.ntmps94
  go_wp2_with fail
  go_loopg [] ds.length (fun k wr => ∃ D : List Int, D.length = k ∧ Hid (digits D = digits ds) ∧ Hid (To b s D cv op w0 wr))
  case atStart => exact ⟨ds, rfl, rfl, HL.out, Lk.refl _ _⟩
  case round =>
    obtain ⟨D, hD, HD, HT⟩ := hrel
    go_wp2_with fail
    refine (peek_z HT.out.lx).mono ?_
    rintro e w1 ⟨rfl, rfl⟩
    go_wp2_with fail
    refine (dg_any _ _).mono ?_
    rintro e w1 ⟨rfl, rfl⟩
    cases hd : dgQ (pk D 0)
    · have HN : Hid (digits D = D) := by
        show _ = _
        apply digits_stop
        intro hx; rw [dgQ_iff.2 hx] at hd; cases hd
      go_wp2_with fail
      go_end0
      exact ⟨rfl, by rw [← HD.out, HN.out]; exact HT.out⟩
    · have hx := dgQ_iff.1 hd
      obtain ⟨c, t, rfl⟩ : ∃ c t, D = c :: t := by
        cases D with
        | nil => unfold isDg at hx; simp at hx
        | cons c t => exact ⟨c, t, rfl⟩
      have HN : Hid (digits t = digits ds) := by
        have := HD.out
        rw [digits, if_pos (by simpa using hx)] at this; exact this
      clear hx
      go_wp2_with fail
      refine (take_any HT.out.lx).mono ?_
      rintro e w2 ⟨rfl, ht2⟩
      have HT2 := Lib.hid ht2
      clear ht2
      go_wp2_with fail
      go_roundg t.length
      case measure => simp at hD; omega
      case rel => exact ⟨t, rfl, HN.out, HT2.out.lx, HT.out.lk.trans HT2.out.lk⟩
end
end Go.Proofs.YtkfdcbdlcipmfaaGreatFmt
namespace Go.Proofs.YtkfdcbdlcipmfaaGreatFmt
open Go.RowKit Css
section
variable {b : Nat} {s : ByteArray} {ds : List Int} {cv : Value} {op : Bool} {w : World}
theorem ret_i64 {a b : Int} (h : a = b) : Ending.returned (.int .i64 a) = .returned (.int .i64 b) := by rw [h]
theorem spaces_stop {r : List Int} (h : ¬ isSp (pk r 0)) : spaces r = r := by
  cases r with
  | nil => rfl
  | cons c t => unfold spaces; rw [if_neg (by simpa using h)]
set_option maxHeartbeats 800000 in
set_option maxRecDepth 100000 in
theorem spaces_any (h : LX b s ds cv op w) : Calls Tryz.prog 65 #[.pointer (some ⟨b, 0, none⟩)] w (ToU b s (spaces ds) cv op w) := by
  have HL := Lib.hid h
  clear h
  rename World => w0
  go_enter Tryz.func65, Tryz.ntmps65
  go_wp2_with fail
  go_loopg [] ds.length (fun k wr => ∃ D : List Int, D.length = k ∧ Hid (spaces D = spaces ds) ∧ Hid (To b s D cv op w0 wr))
  case atStart => exact ⟨ds, rfl, rfl, HL.out, Lk.refl _ _⟩
  case round =>
    obtain ⟨D, hD, HD, HT⟩ := hrel
    go_wp2_with fail
    refine (peek_z HT.out.lx).mono ?_
    rintro e w1 ⟨rfl, rfl⟩
    go_wp2_with fail
    refine (sp_any _ _).mono ?_
    rintro e w1 ⟨rfl, rfl⟩
    cases hd : spQ (pk D 0)
    · have HN : Hid (spaces D = D) := by
        show _ = _
        apply spaces_stop
        intro hx; rw [spQ_iff.2 hx] at hd; cases hd
      go_wp2_with fail
      go_end0
      exact ⟨rfl, by rw [← HD.out, HN.out]; exact HT.out⟩
    · have hx := spQ_iff.1 hd
      obtain ⟨c, t, rfl⟩ : ∃ c t, D = c :: t := by
        cases D with
        | nil => unfold isSp isNl at hx; simp at hx
        | cons c t => exact ⟨c, t, rfl⟩
      have HN : Hid (spaces t = spaces ds) := by
        have := HD.out
        rw [spaces, if_pos (by simpa using hx)] at this; exact this
      clear hx
      go_wp2_with fail
      refine (take_any HT.out.lx).mono ?_
      rintro e w2 ⟨rfl, ht2⟩
      have HT2 := Lib.hid ht2
      clear ht2
      go_wp2_with fail
      go_roundg t.length
      case measure => simp at hD; omega
      case rel => exact ⟨t, rfl, HN.out, HT2.out.lx, HT.out.lk.trans HT2.out.lk⟩
def EscR (b : Nat) (s : ByteArray) (ds : List Int) (cv : Value) (op : Bool) (w : World) (e : Ending) (w' : World) : Prop :=
  e = .returned (.int .i64 (escape ds).1) ∧ To b s (escape ds).2.2 cv (op || (escape ds).2.1) w w'
theorem To.open_ {w' : World} (h : To b s ds cv op w w') (op' : Bool) : To b s ds cv op' w (w'.setCell ⟨b, 3, none⟩ (.bool op')) := ⟨h.lx.setOpen op', h.lk.set_ _ _⟩
def hb (i : Nat) : Int := 16 ^ i
theorem hb_succ (i : Nat) : hb (i + 1) = hb i * 16 := by unfold hb; exact Int.pow_succ _ _
theorem hb_le (i : Nat) (h : i ≤ 5) : hb i ≤ 1048576 := by
  have : i = 0 ∨ i = 1 ∨ i = 2 ∨ i = 3 ∨ i = 4 ∨ i = 5 := by omega
  rcases this with rfl | rfl | rfl | rfl | rfl | rfl <;> decide
theorem hb_le6 (i : Nat) (h : i ≤ 6) : hb i ≤ 16777216 := by
  have : i = 0 ∨ i = 1 ∨ i = 2 ∨ i = 3 ∨ i = 4 ∨ i = 5 ∨ i = 6 := by omega
  rcases this with rfl | rfl | rfl | rfl | rfl | rfl | rfl <;> decide
theorem hexv_bd (c : Int) : -1 ≤ hexv c ∧ hexv c ≤ 15 := by
  unfold hexv; repeat' split
  all_goals omega
set_option maxHeartbeats 1600000 in
set_option maxRecDepth 100000 in
theorem escape_any (h : LX b s ds cv op w) : Calls Tryz.prog 63 #[.pointer (some ⟨b, 0, none⟩)] w (EscR b s ds cv op w) := by
  have HL := Lib.hid h
  clear h
  by_cases hx : hexv (pk ds 0) < 0
  · cases he : (pk ds 0 == -1)
    · have HE : Hid (escape ds = (pk ds 0, false, ds.tail)) := by
        show _ = _; unfold escape; rw [if_pos hx, if_neg (by simpa using he)]
      go_enter Tryz.func63, Tryz.ntmps63
      go_wp2_with fail
      refine (peek_z HL.out).mono ?_
      rintro e w1 ⟨rfl, rfl⟩
      go_wp2_with fail
      refine (hex_any _ _).mono ?_
      rintro e w1 ⟨rfl, rfl⟩
      go_wp2_with fail
      refine (take_any HL.out).mono ?_
      rintro e w2 ⟨rfl, ht2⟩
      have HT2 := Lib.hid ht2
      clear ht2
      go_wp2_with fail
      go_ret
      exact ⟨by rw [HE.out]; rfl, by rw [HE.out]; show To b s ds.tail cv (op || false) _ _; rw [Bool.or_false]; exact HT2.out⟩
    · have he' : pk ds 0 = -1 := by simpa using he
      have HE : Hid (escape ds = (65533, true, ds.tail)) := by
        show _ = _; unfold escape; rw [if_pos hx, if_pos he']
      clear he'
      go_enter Tryz.func63, Tryz.ntmps63
      go_wp2_with fail
      refine (peek_z HL.out).mono ?_
      rintro e w1 ⟨rfl, rfl⟩
      go_wp2_with fail
      refine (hex_any _ _).mono ?_
      rintro e w1 ⟨rfl, rfl⟩
      go_wp2_with fail
      refine (take_any HL.out).mono ?_
      rintro e w2 ⟨rfl, ht2⟩
      have HT2 := Lib.hid ht2
      have hc3 := ht2.lx.c3
      have hf3 := ht2.lx.f 3
      clear ht2
      go_wp2_with fail
      go_ret
      refine ⟨by rw [HE.out]; rfl, ?_⟩
      rw [HE.out]; show To b s ds.tail cv (op || true) _ _
      rw [Bool.or_true]
      exact HT2.out.open_ true
  · have hx0 : 0 ≤ hexv (pk ds 0) := by omega
    rename World => w0
    have HX : Hid (0 ≤ hexv (pk ds 0)) := hx0
    go_enter Tryz.func63, Tryz.ntmps63
    go_wp2_with fail
    refine (peek_z HL.out).mono ?_
    rintro e w1 ⟨rfl, rfl⟩
    go_wp2_with fail
    refine (hex_any _ _).mono ?_
    rintro e w1 ⟨rfl, rfl⟩
    go_wp2_with fail
    go_loopg [4, 5] 6 (fun k p4 p5 wr => ∃ (i : Nat) (v : Int) (D : List Int), p4 = .int .i64 v ∧ p5 = .int .i64 i ∧ i + k = 6 ∧ 0 ≤ v ∧ v < hb i ∧ Hid (hexRun k v D = hexRun 6 0 ds) ∧ Hid (To b s D cv op w0 wr))
    case atStart => exact ⟨0, 0, ds, rfl, rfl, rfl, by omega, by decide, rfl, HL.out, Lk.refl _ _⟩
    case round =>
      obtain ⟨i, v, D, rfl, rfl, hik, hv0, hv1, HD, HT⟩ := hrel
      have hb6 := hb_le6 i (by omega)
      have hv2 : v ≤ 16777216 := by omega
      by_cases hgo : (i : Int) < 6 ∧ 0 ≤ hexv (pk D 0)
      · obtain ⟨hi, hh⟩ := hgo
        have hv3 : v ≤ 1048576 := by have := hb_le i (by omega); omega
        have hbd := hexv_bd (pk D 0)
        obtain ⟨c, t, rfl⟩ : ∃ c t, D = c :: t := by
          cases D with
          | nil => exact absurd hh (by decide)
          | cons c t => exact ⟨c, t, rfl⟩
        rw [pk_cons_zero] at hh hbd
        obtain ⟨k', rfl⟩ : ∃ k', gk = k' + 1 := ⟨gk - 1, by omega⟩
        have HN : Hid (hexRun k' (v * 16 + hexv c) t = hexRun 6 0 ds) := by
          have := HD.out
          unfold hexRun at this
          simp only [pk_cons_zero, List.tail_cons] at this
          rw [if_pos hh] at this; exact this
        have HB : Hid (v * 16 + hexv c < hb (i + 1)) := by
          show _ < _; rw [hb_succ]; omega
        clear HD hv1 hb6 hx hx0
        go_wp2_with fail
        refine (peek_z HT.out.lx).mono ?_
        rintro e w1 ⟨rfl, rfl⟩
        go_wp2_with fail
        refine (hex_any _ _).mono ?_
        rintro e w1 ⟨rfl, rfl⟩
        go_wp2_with fail
        refine (take_any HT.out.lx).mono ?_
        rintro e w2 ⟨rfl, ht2⟩
        have HT2 := Lib.hid ht2
        clear ht2
        go_wp2_with fail
        refine (hex_any _ _).mono ?_
        rintro e w1 ⟨rfl, rfl⟩
        go_wp2_with fail
        go_roundg k'
        case measure => omega
        case rel => exact ⟨i + 1, _, t, rfl, by go_num, by omega, by omega, HB.out, HN.out, HT2.out.lx, HT.out.lk.trans HT2.out.lk⟩
      · have hrun : hexRun 6 0 ds = (v, D) := by
          rw [← HD.out]
          cases gk with
          | zero => rfl
          | succ k' =>
            unfold hexRun
            rw [if_neg]
            intro hh; exact hgo ⟨by omega, hh⟩
        have HR := Lib.hid hrun
        have hway : ((i : Int) < 6 ∧ hexv (pk D 0) < 0) ∨ 6 ≤ (i : Int) := by
          by_cases hi : (i : Int) < 6
          · left; refine ⟨hi, ?_⟩
            by_cases hh : 0 ≤ hexv (pk D 0)
            · exact absurd ⟨hi, hh⟩ hgo
            · omega
          · right; omega
        have HE : Hid (escape ds = if isNl (pk D 0) then (fixv v, true, newline D) else if isSp (pk D 0) then (fixv v, false, D.tail) else (fixv v, false, D)) := by
          show _ = _
          unfold escape
          rw [if_neg (by have := HX.out; omega), hrun]
        have hfix : ((v == 0) = true ∧ Hid (fixv v = 65533)) ∨ ((v == 0) = false ∧ 1114111 < v ∧ Hid (fixv v = 65533)) ∨ ((v == 0) = false ∧ v ≤ 1114111 ∧ 55296 ≤ v ∧ v < 57344 ∧ Hid (fixv v = 65533)) ∨ ((v == 0) = false ∧ v < 55296 ∧ Hid (fixv v = v)) ∨ ((v == 0) = false ∧ v ≤ 1114111 ∧ 57344 ≤ v ∧ Hid (fixv v = v)) := by
          have hid : ∀ p : Prop, Hid p = p := fun _ => rfl
          simp only [beq_iff_eq, beq_eq_false_iff_ne, hid]
          unfold fixv
          by_cases c1 : v = 0
          · left; exact ⟨c1, by rw [if_pos (.inl c1)]⟩
          · by_cases c2 : 1114111 < v
            · right; left; exact ⟨c1, c2, by rw [if_pos (by omega)]⟩
            · by_cases c3 : 55296 ≤ v ∧ v < 57344
              · right; right; left; exact ⟨c1, by omega, c3.1, c3.2, by rw [if_pos (by omega)]⟩
              · by_cases c4 : v < 55296
                · right; right; right; left; exact ⟨c1, c4, by rw [if_neg (by omega)]⟩
                · right; right; right; right; exact ⟨c1, by omega, by omega, by rw [if_neg (by omega)]⟩
        clear hrun HD hv1 hb6 hgo hx hx0 hik
        cases hn : nlQ (pk D 0)
        · have hn' : ¬ isNl (pk D 0) := by intro hx; rw [nlQ_iff.2 hx] at hn; cases hn
          cases hsp : spQ (pk D 0)
          · have hsp' : ¬ isSp (pk D 0) := by intro hx; rw [spQ_iff.2 hx] at hsp; cases hsp
            have HF : Hid (escape ds = (fixv v, false, D)) := by show _ = _; rw [HE.out, if_neg hn', if_neg hsp']
            clear hn' hsp' HE
            have HN := Lib.hid hn
            have HS := Lib.hid hsp
            clear hn hsp
            rcases hway with ⟨hi, hh⟩ | hi <;> rcases hfix with ⟨q0, HV⟩ | ⟨q0, q1, HV⟩ | ⟨q0, q1, q2, q3, HV⟩ | ⟨q0, q1, HV⟩ | ⟨q0, q1, q2, HV⟩
            all_goals
              go_wp2_with (first | (go_at_call 59; go_must (refine (peek_z HT.out.lx).mono ?_; rintro e w1 ⟨rfl, rfl⟩)) | (go_at_call 92; go_must (refine (hex_any _ _).mono ?_; rintro e w1 ⟨rfl, rfl⟩)) | (go_at_call 91; go_must (refine (nl_any _ _).mono ?_; rintro e w1 ⟨rfl, rfl⟩; rw [HN.out])) | (go_at_call 64; go_must (refine (sp_any _ _).mono ?_; rintro e w1 ⟨rfl, rfl⟩; rw [HS.out])))
              all_goals
                go_ret
                refine ⟨ret_i64 (b := (escape ds).1) ?_, by rw [HF.out]; show To b s D cv (op || false) _ _; rw [Bool.or_false]; exact HT.out⟩
                rw [HF.out]
                show _ = fixv v
                rw [HV.out]
          · have hsp' := spQ_iff.1 hsp
            have HF : Hid (escape ds = (fixv v, false, D.tail)) := by show _ = _; rw [HE.out, if_neg hn', if_pos hsp']
            clear hn' hsp' HE
            have HN := Lib.hid hn
            have HS := Lib.hid hsp
            clear hn hsp
            rcases hway with ⟨hi, hh⟩ | hi <;> rcases hfix with ⟨q0, HV⟩ | ⟨q0, q1, HV⟩ | ⟨q0, q1, q2, q3, HV⟩ | ⟨q0, q1, HV⟩ | ⟨q0, q1, q2, HV⟩
            all_goals
              go_wp2_with (first | (go_at_call 59; go_must (refine (peek_z HT.out.lx).mono ?_; rintro e w1 ⟨rfl, rfl⟩)) | (go_at_call 92; go_must (refine (hex_any _ _).mono ?_; rintro e w1 ⟨rfl, rfl⟩)) | (go_at_call 91; go_must (refine (nl_any _ _).mono ?_; rintro e w1 ⟨rfl, rfl⟩; rw [HN.out])) | (go_at_call 64; go_must (refine (sp_any _ _).mono ?_; rintro e w1 ⟨rfl, rfl⟩; rw [HS.out])) | (go_at_call 61; go_must (refine (take_any HT.out.lx).mono ?_; rintro e w2 ⟨rfl, ht2⟩; have HT2 := Lib.hid ht2; clear ht2)))
              all_goals
                go_ret
                refine ⟨ret_i64 (b := (escape ds).1) ?_, by rw [HF.out]; show To b s D.tail cv (op || false) _ _; rw [Bool.or_false]; exact ⟨HT2.out.lx, HT.out.lk.trans HT2.out.lk⟩⟩
                rw [HF.out]
                show _ = fixv v
                rw [HV.out]
        · have hn' := nlQ_iff.1 hn
          have HF : Hid (escape ds = (fixv v, true, newline D)) := by show _ = _; rw [HE.out, if_pos hn']
          clear hn' HE
          have HN := Lib.hid hn
          clear hn
          have HTo : Hid (To b s D cv true w0 (wr.setCell ⟨b, 3, none⟩ (.bool true))) := HT.out.open_ true
          have hc3 := HT.out.lx.c3
          have hf3 := HT.out.lx.f 3
          rcases hway with ⟨hi, hh⟩ | hi <;> rcases hfix with ⟨q0, HV⟩ | ⟨q0, q1, HV⟩ | ⟨q0, q1, q2, q3, HV⟩ | ⟨q0, q1, HV⟩ | ⟨q0, q1, q2, HV⟩
          all_goals
            go_wp2_with (first | (go_at_call 59; go_must (refine (peek_z HT.out.lx).mono ?_; rintro e w1 ⟨rfl, rfl⟩)) | (go_at_call 92; go_must (refine (hex_any _ _).mono ?_; rintro e w1 ⟨rfl, rfl⟩)) | (go_at_call 91; go_must (refine (nl_any _ _).mono ?_; rintro e w1 ⟨rfl, rfl⟩; rw [HN.out])) | (go_at_call 93; go_must (refine (newline_any HTo.out.lx).mono ?_; rintro e w2 ⟨rfl, ht2⟩; have HT2 := Lib.hid ht2; clear ht2)))
            all_goals
              go_ret
              refine ⟨ret_i64 (b := (escape ds).1) ?_, by rw [HF.out]; show To b s (newline D) cv (op || true) _ _; rw [Bool.or_true]; exact ⟨HT2.out.lx, HTo.out.lk.trans HT2.out.lk⟩⟩
              rw [HF.out]
              show _ = fixv v
              rw [HV.out]
end
end Go.Proofs.YtkfdcbdlcipmfaaGreatFmt
