/- Walks: the reference: which tokens must be apart. Printed by genS27.py. -/
import Derived.Test.YtkfdcbdlcipmfaaGreatFmtH40
import Derived.Test.YtkfdcbdlcipmfaaGreatFmtH08
set_option linter.unusedVariables false
set_option linter.unusedSimpArgs false
namespace Go.Proofs.YtkfdcbdlcipmfaaGreatFmt
open Go.RowKit Css
abbrev itBlk (k u : Int) (s : ByteArray) (sp : Int) : Obj := .cells #[.int .i64 k, .int .i64 u, .string s, .int .i64 sp] 34
structure TwoIt (w0 : World) (a b : Nat) (oa ob : Obj) (w : World) : Prop where
  a : w.heap[a]? = some oa
  b : w.heap[b]? = some ob
  below : Below w0.heap.size w0 w
theorem heap_keep {w w' : World} (h : Below w.heap.size w w') {b : Nat} {O : Obj} (hb : w.heap[b]? = some O) : w'.heap[b]? = some O := by
  rw [h.block b (Array.getElem?_eq_some_iff.1 hb).1]; exact hb
theorem TwoIt.then {w0 w w' : World} {a b : Nat} {oa ob : Obj} (h : TwoIt w0 a b oa ob w) (hb : Below w.heap.size w w') : TwoIt w0 a b oa ob w' := ⟨heap_keep hb h.a, heap_keep hb h.b, below_then h.below hb⟩
theorem TwoIt.cells {w0 w : World} {a b : Nat} {k1 u1 p1 k2 u2 p2 : Int} {s1 s2 : ByteArray} (h : TwoIt w0 a b (itBlk k1 u1 s1 p1) (itBlk k2 u2 s2 p2) w) :
    w.cell? ⟨a, 0, none⟩ = some (.int .i64 k1) ∧ w.cell? ⟨a, 1, none⟩ = some (.int .i64 u1) ∧ w.cell? ⟨a, 2, none⟩ = some (.string s1) ∧ w.cell? ⟨a, 3, none⟩ = some (.int .i64 p1) ∧
    w.cell? ⟨b, 0, none⟩ = some (.int .i64 k2) ∧ w.cell? ⟨b, 1, none⟩ = some (.int .i64 u2) ∧ w.cell? ⟨b, 2, none⟩ = some (.string s2) ∧ w.cell? ⟨b, 3, none⟩ = some (.int .i64 p2) :=
  ⟨cell_blk h.a 0, cell_blk h.a 1, cell_blk h.a 2, cell_blk h.a 3, cell_blk h.b 0, cell_blk h.b 1, cell_blk h.b 2, cell_blk h.b 3⟩
theorem twoIt_made (w : World) (oa ob : Obj) : TwoIt w w.heap.size (w.heap.size + 1) oa ob ((w.alloc oa).alloc ob) := by
  have e : w.heap.size + 1 = (w.alloc oa).heap.size := by show _ = (w.heap.push oa).size; rw [Array.size_push]
  refine ⟨heap_keep (box_below _ _) ?_, ?_, ((Below.refl _ _).alloc (Nat.le_refl _) _).alloc (by show _ ≤ (w.heap.push oa).size; rw [Array.size_push]; omega) _⟩
  · show (w.heap.push oa)[w.heap.size]? = _; rw [Array.getElem?_push_size]
  · rw [e]; show ((w.heap.push oa).push ob)[(w.heap.push oa).size]? = _; rw [Array.getElem?_push_size]
section
variable (ka ua : Int) (sa : ByteArray) (pa kb ub : Int) (sb : ByteArray) (pb : Int) (w : World)
set_option maxHeartbeats 1600000 in
set_option maxRecDepth 100000 in
theorem apart_a0 (h0 : clsI ka ≠ 0) (h1 : ka ≠ 27) (h2 : clsI kb ≠ 0) : Calls Tryz.prog 40 #[itV ka ua sa pa, itV kb ub sb pb] w (RetBW true w) := by
  have c0 : (clsI ka != 0) = true := by simpa using h0
  have c1 : (ka != 27) = true := by simpa using h1
  have c2 : (clsI kb != 0) = true := by simpa using h2
  clear h0 h1 h2
  have HM := Lib.hid (twoIt_made w (itBlk ka ua sa pa) (itBlk kb ub sb pb))
  unfold itV
  go_enter Tryz.func40, Tryz.ntmps40
  go_upto_region 1 with fail
  change Code.wp _ _ _ _ ((w.alloc (itBlk ka ua sa pa)).alloc (itBlk kb ub sb pb))
  generalize (w.alloc (itBlk ka ua sa pa)).alloc (itBlk kb ub sb pb) = W at HM ⊢
  generalize w.heap.size + 1 = n2 at HM ⊢
  generalize hn1 : w.heap.size = n1 at HM ⊢
  obtain ⟨a0, a1, a2, a3, b0, b1, b2, b3⟩ := HM.out.cells
  go_wp2_with (go_at_call 50; go_must (refine (class_any _ _).mono ?_; rintro e w' ⟨rfl, rfl⟩))
  go_ret
  exact RetBW.mk' rfl HM.out.below
set_option maxHeartbeats 1600000 in
set_option maxRecDepth 100000 in
theorem apart_a22 (h0 : clsI ka ≠ 0) (h1 : ka ≠ 27) (h2 : clsI kb = 0)  (hk : kb = 22) : Calls Tryz.prog 40 #[itV ka ua sa pa, itV kb ub sb pb] w (RetBW true w) := by
  have c0 : (clsI ka != 0) = true := by simpa using h0
  have c1 : (ka != 27) = true := by simpa using h1
  have c2 : (clsI kb != 0) = false := by simpa using h2
  have e22 : (kb == 22) = true := by simpa using hk
  clear h0 h1 h2 hk 
  have HM := Lib.hid (twoIt_made w (itBlk ka ua sa pa) (itBlk kb ub sb pb))
  unfold itV
  go_enter Tryz.func40, Tryz.ntmps40
  go_upto_region 1 with fail
  change Code.wp _ _ _ _ ((w.alloc (itBlk ka ua sa pa)).alloc (itBlk kb ub sb pb))
  generalize (w.alloc (itBlk ka ua sa pa)).alloc (itBlk kb ub sb pb) = W at HM ⊢
  generalize w.heap.size + 1 = n2 at HM ⊢
  generalize hn1 : w.heap.size = n1 at HM ⊢
  obtain ⟨a0, a1, a2, a3, b0, b1, b2, b3⟩ := HM.out.cells
  go_wp2_with (go_at_call 50; go_must (refine (class_any _ _).mono ?_; rintro e w' ⟨rfl, rfl⟩))
  go_ret
  exact RetBW.mk' rfl HM.out.below
set_option maxHeartbeats 1600000 in
set_option maxRecDepth 100000 in
theorem apart_a4 (h0 : clsI ka ≠ 0) (h1 : ka ≠ 27) (h2 : clsI kb = 0) (k22 : kb ≠ 22) (hk : kb = 4) : Calls Tryz.prog 40 #[itV ka ua sa pa, itV kb ub sb pb] w (RetBW true w) := by
  have c0 : (clsI ka != 0) = true := by simpa using h0
  have c1 : (ka != 27) = true := by simpa using h1
  have c2 : (clsI kb != 0) = false := by simpa using h2
  have e22 : (kb == 22) = false := by simpa using k22
  have e4 : (kb == 4) = true := by simpa using hk
  clear h0 h1 h2 hk k22
  have HM := Lib.hid (twoIt_made w (itBlk ka ua sa pa) (itBlk kb ub sb pb))
  unfold itV
  go_enter Tryz.func40, Tryz.ntmps40
  go_upto_region 1 with fail
  change Code.wp _ _ _ _ ((w.alloc (itBlk ka ua sa pa)).alloc (itBlk kb ub sb pb))
  generalize (w.alloc (itBlk ka ua sa pa)).alloc (itBlk kb ub sb pb) = W at HM ⊢
  generalize w.heap.size + 1 = n2 at HM ⊢
  generalize hn1 : w.heap.size = n1 at HM ⊢
  obtain ⟨a0, a1, a2, a3, b0, b1, b2, b3⟩ := HM.out.cells
  go_wp2_with (go_at_call 50; go_must (refine (class_any _ _).mono ?_; rintro e w' ⟨rfl, rfl⟩))
  go_ret
  exact RetBW.mk' rfl HM.out.below
set_option maxHeartbeats 1600000 in
set_option maxRecDepth 100000 in
theorem apart_a33 (h0 : clsI ka ≠ 0) (h1 : ka ≠ 27) (h2 : clsI kb = 0) (k22 : kb ≠ 22) (k4 : kb ≠ 4) (hk : kb = 33) : Calls Tryz.prog 40 #[itV ka ua sa pa, itV kb ub sb pb] w (RetBW true w) := by
  have c0 : (clsI ka != 0) = true := by simpa using h0
  have c1 : (ka != 27) = true := by simpa using h1
  have c2 : (clsI kb != 0) = false := by simpa using h2
  have e22 : (kb == 22) = false := by simpa using k22
  have e4 : (kb == 4) = false := by simpa using k4
  have e33 : (kb == 33) = true := by simpa using hk
  clear h0 h1 h2 hk k22 k4
  have HM := Lib.hid (twoIt_made w (itBlk ka ua sa pa) (itBlk kb ub sb pb))
  unfold itV
  go_enter Tryz.func40, Tryz.ntmps40
  go_upto_region 1 with fail
  change Code.wp _ _ _ _ ((w.alloc (itBlk ka ua sa pa)).alloc (itBlk kb ub sb pb))
  generalize (w.alloc (itBlk ka ua sa pa)).alloc (itBlk kb ub sb pb) = W at HM ⊢
  generalize w.heap.size + 1 = n2 at HM ⊢
  generalize hn1 : w.heap.size = n1 at HM ⊢
  obtain ⟨a0, a1, a2, a3, b0, b1, b2, b3⟩ := HM.out.cells
  go_wp2_with (go_at_call 50; go_must (refine (class_any _ _).mono ?_; rintro e w' ⟨rfl, rfl⟩))
  go_ret
  exact RetBW.mk' rfl HM.out.below
set_option maxHeartbeats 1600000 in
set_option maxRecDepth 100000 in
theorem apart_a11 (h0 : clsI ka ≠ 0) (h1 : ka ≠ 27) (h2 : clsI kb = 0) (k22 : kb ≠ 22) (k4 : kb ≠ 4) (k33 : kb ≠ 33) (hk : kb = 11) : Calls Tryz.prog 40 #[itV ka ua sa pa, itV kb ub sb pb] w (RetBW true w) := by
  have c0 : (clsI ka != 0) = true := by simpa using h0
  have c1 : (ka != 27) = true := by simpa using h1
  have c2 : (clsI kb != 0) = false := by simpa using h2
  have e22 : (kb == 22) = false := by simpa using k22
  have e4 : (kb == 4) = false := by simpa using k4
  have e33 : (kb == 33) = false := by simpa using k33
  have e11 : (kb == 11) = true := by simpa using hk
  clear h0 h1 h2 hk k22 k4 k33
  have HM := Lib.hid (twoIt_made w (itBlk ka ua sa pa) (itBlk kb ub sb pb))
  unfold itV
  go_enter Tryz.func40, Tryz.ntmps40
  go_upto_region 1 with fail
  change Code.wp _ _ _ _ ((w.alloc (itBlk ka ua sa pa)).alloc (itBlk kb ub sb pb))
  generalize (w.alloc (itBlk ka ua sa pa)).alloc (itBlk kb ub sb pb) = W at HM ⊢
  generalize w.heap.size + 1 = n2 at HM ⊢
  generalize hn1 : w.heap.size = n1 at HM ⊢
  obtain ⟨a0, a1, a2, a3, b0, b1, b2, b3⟩ := HM.out.cells
  go_wp2_with (go_at_call 50; go_must (refine (class_any _ _).mono ?_; rintro e w' ⟨rfl, rfl⟩))
  go_ret
  exact RetBW.mk' rfl HM.out.below
set_option maxHeartbeats 1600000 in
set_option maxRecDepth 100000 in
theorem apart_a17 (h0 : clsI ka ≠ 0) (h1 : ka ≠ 27) (h2 : clsI kb = 0) (k22 : kb ≠ 22) (k4 : kb ≠ 4) (k33 : kb ≠ 33) (k11 : kb ≠ 11) (hk : kb = 17) : Calls Tryz.prog 40 #[itV ka ua sa pa, itV kb ub sb pb] w (RetBW true w) := by
  have c0 : (clsI ka != 0) = true := by simpa using h0
  have c1 : (ka != 27) = true := by simpa using h1
  have c2 : (clsI kb != 0) = false := by simpa using h2
  have e22 : (kb == 22) = false := by simpa using k22
  have e4 : (kb == 4) = false := by simpa using k4
  have e33 : (kb == 33) = false := by simpa using k33
  have e11 : (kb == 11) = false := by simpa using k11
  have e17 : (kb == 17) = true := by simpa using hk
  clear h0 h1 h2 hk k22 k4 k33 k11
  have HM := Lib.hid (twoIt_made w (itBlk ka ua sa pa) (itBlk kb ub sb pb))
  unfold itV
  go_enter Tryz.func40, Tryz.ntmps40
  go_upto_region 1 with fail
  change Code.wp _ _ _ _ ((w.alloc (itBlk ka ua sa pa)).alloc (itBlk kb ub sb pb))
  generalize (w.alloc (itBlk ka ua sa pa)).alloc (itBlk kb ub sb pb) = W at HM ⊢
  generalize w.heap.size + 1 = n2 at HM ⊢
  generalize hn1 : w.heap.size = n1 at HM ⊢
  obtain ⟨a0, a1, a2, a3, b0, b1, b2, b3⟩ := HM.out.cells
  go_wp2_with (go_at_call 50; go_must (refine (class_any _ _).mono ?_; rintro e w' ⟨rfl, rfl⟩))
  go_ret
  exact RetBW.mk' rfl HM.out.below
set_option maxHeartbeats 1600000 in
set_option maxRecDepth 100000 in
theorem apart_a23 (h0 : clsI ka ≠ 0) (h1 : ka ≠ 27) (h2 : clsI kb = 0) (k22 : kb ≠ 22) (k4 : kb ≠ 4) (k33 : kb ≠ 33) (k11 : kb ≠ 11) (k17 : kb ≠ 17) (hk : kb = 23) : Calls Tryz.prog 40 #[itV ka ua sa pa, itV kb ub sb pb] w (RetBW true w) := by
  have c0 : (clsI ka != 0) = true := by simpa using h0
  have c1 : (ka != 27) = true := by simpa using h1
  have c2 : (clsI kb != 0) = false := by simpa using h2
  have e22 : (kb == 22) = false := by simpa using k22
  have e4 : (kb == 4) = false := by simpa using k4
  have e33 : (kb == 33) = false := by simpa using k33
  have e11 : (kb == 11) = false := by simpa using k11
  have e17 : (kb == 17) = false := by simpa using k17
  have e23 : (kb == 23) = true := by simpa using hk
  clear h0 h1 h2 hk k22 k4 k33 k11 k17
  have HM := Lib.hid (twoIt_made w (itBlk ka ua sa pa) (itBlk kb ub sb pb))
  unfold itV
  go_enter Tryz.func40, Tryz.ntmps40
  go_upto_region 1 with fail
  change Code.wp _ _ _ _ ((w.alloc (itBlk ka ua sa pa)).alloc (itBlk kb ub sb pb))
  generalize (w.alloc (itBlk ka ua sa pa)).alloc (itBlk kb ub sb pb) = W at HM ⊢
  generalize w.heap.size + 1 = n2 at HM ⊢
  generalize hn1 : w.heap.size = n1 at HM ⊢
  obtain ⟨a0, a1, a2, a3, b0, b1, b2, b3⟩ := HM.out.cells
  go_wp2_with (go_at_call 50; go_must (refine (class_any _ _).mono ?_; rintro e w' ⟨rfl, rfl⟩))
  go_ret
  exact RetBW.mk' rfl HM.out.below
set_option maxHeartbeats 1600000 in
set_option maxRecDepth 100000 in
theorem apart_a20 (h0 : clsI ka ≠ 0) (h1 : ka ≠ 27) (h2 : clsI kb = 0) (k22 : kb ≠ 22) (k4 : kb ≠ 4) (k33 : kb ≠ 33) (k11 : kb ≠ 11) (k17 : kb ≠ 17) (k23 : kb ≠ 23) (hk : kb = 20) : Calls Tryz.prog 40 #[itV ka ua sa pa, itV kb ub sb pb] w (RetBW true w) := by
  have c0 : (clsI ka != 0) = true := by simpa using h0
  have c1 : (ka != 27) = true := by simpa using h1
  have c2 : (clsI kb != 0) = false := by simpa using h2
  have e22 : (kb == 22) = false := by simpa using k22
  have e4 : (kb == 4) = false := by simpa using k4
  have e33 : (kb == 33) = false := by simpa using k33
  have e11 : (kb == 11) = false := by simpa using k11
  have e17 : (kb == 17) = false := by simpa using k17
  have e23 : (kb == 23) = false := by simpa using k23
  have e20 : (kb == 20) = true := by simpa using hk
  clear h0 h1 h2 hk k22 k4 k33 k11 k17 k23
  have HM := Lib.hid (twoIt_made w (itBlk ka ua sa pa) (itBlk kb ub sb pb))
  unfold itV
  go_enter Tryz.func40, Tryz.ntmps40
  go_upto_region 1 with fail
  change Code.wp _ _ _ _ ((w.alloc (itBlk ka ua sa pa)).alloc (itBlk kb ub sb pb))
  generalize (w.alloc (itBlk ka ua sa pa)).alloc (itBlk kb ub sb pb) = W at HM ⊢
  generalize w.heap.size + 1 = n2 at HM ⊢
  generalize hn1 : w.heap.size = n1 at HM ⊢
  obtain ⟨a0, a1, a2, a3, b0, b1, b2, b3⟩ := HM.out.cells
  go_wp2_with (go_at_call 50; go_must (refine (class_any _ _).mono ?_; rintro e w' ⟨rfl, rfl⟩))
  go_ret
  exact RetBW.mk' rfl HM.out.below
set_option maxHeartbeats 1600000 in
set_option maxRecDepth 100000 in
theorem apart_an (h0 : clsI ka ≠ 0) (h1 : ka ≠ 27) (h2 : clsI kb = 0) (k22 : kb ≠ 22) (k4 : kb ≠ 4) (k33 : kb ≠ 33) (k11 : kb ≠ 11) (k17 : kb ≠ 17) (k23 : kb ≠ 23) (k20 : kb ≠ 20) : Calls Tryz.prog 40 #[itV ka ua sa pa, itV kb ub sb pb] w (RetBW false w) := by
  have c0 : (clsI ka != 0) = true := by simpa using h0
  have c1 : (ka != 27) = true := by simpa using h1
  have c2 : (clsI kb != 0) = false := by simpa using h2
  have e22 : (kb == 22) = false := by simpa using k22
  have e4 : (kb == 4) = false := by simpa using k4
  have e33 : (kb == 33) = false := by simpa using k33
  have e11 : (kb == 11) = false := by simpa using k11
  have e17 : (kb == 17) = false := by simpa using k17
  have e23 : (kb == 23) = false := by simpa using k23
  have e20 : (kb == 20) = false := by simpa using k20
  clear h0 h1 h2 k22 k4 k33 k11 k17 k23 k20
  have HM := Lib.hid (twoIt_made w (itBlk ka ua sa pa) (itBlk kb ub sb pb))
  unfold itV
  go_enter Tryz.func40, Tryz.ntmps40
  go_upto_region 1 with fail
  change Code.wp _ _ _ _ ((w.alloc (itBlk ka ua sa pa)).alloc (itBlk kb ub sb pb))
  generalize (w.alloc (itBlk ka ua sa pa)).alloc (itBlk kb ub sb pb) = W at HM ⊢
  generalize w.heap.size + 1 = n2 at HM ⊢
  generalize hn1 : w.heap.size = n1 at HM ⊢
  obtain ⟨a0, a1, a2, a3, b0, b1, b2, b3⟩ := HM.out.cells
  go_wp2_with (go_at_call 50; go_must (refine (class_any _ _).mono ?_; rintro e w' ⟨rfl, rfl⟩))
  go_ret
  exact RetBW.mk' rfl HM.out.below
set_option maxHeartbeats 1600000 in
set_option maxRecDepth 100000 in
theorem apart_bn (h0 : clsI ka = 0 ∨ ka = 27) (hf : ¬ frontS (sgI ka sa)) : Calls Tryz.prog 40 #[itV ka ua sa pa, itV kb ub sb pb] w (RetBW false w) := by
  have HF := Lib.hid hf
  have C := Lib.hid h0
  have S := signs_any ka ua sa pa
  generalize sgI ka sa = s at HF S
  have f35 : (s == 35) = false := by have := HF.out; unfold frontS at this; simp; omega
  have f45 : (s == 45) = false := by have := HF.out; unfold frontS at this; simp; omega
  have f64 : (s == 64) = false := by have := HF.out; unfold frontS at this; simp; omega
  have f43 : (s == 43) = false := by have := HF.out; unfold frontS at this; simp; omega
  have f46 : (s == 46) = false := by have := HF.out; unfold frontS at this; simp; omega
  have f60 : (s == 60) = false := by have := HF.out; unfold frontS at this; simp; omega
  have f47 : (s == 47) = false := by have := HF.out; unfold frontS at this; simp; omega
  have f33 : (s == 33) = false := by have := HF.out; unfold frontS at this; simp; omega
  have f37 : (s == 37) = false := by have := HF.out; unfold frontS at this; simp; omega
  have f63 : (s == 63) = false := by have := HF.out; unfold frontS at this; simp; omega
  have HS := Lib.hid S
  clear hf S
  rcases h0 with h0 | h0
  · have c0 : (clsI ka != 0) = false := by simpa using h0
    clear h0
    have HM := Lib.hid (twoIt_made w (itBlk ka ua sa pa) (itBlk kb ub sb pb))
    unfold itV
    go_enter Tryz.func40, Tryz.ntmps40
    go_upto_region 1 with fail
    change Code.wp _ _ _ _ ((w.alloc (itBlk ka ua sa pa)).alloc (itBlk kb ub sb pb))
    generalize (w.alloc (itBlk ka ua sa pa)).alloc (itBlk kb ub sb pb) = W at HM ⊢
    generalize w.heap.size + 1 = n2 at HM ⊢
    generalize hn1 : w.heap.size = n1 at HM ⊢
    obtain ⟨a0, a1, a2, a3, b0, b1, b2, b3⟩ := HM.out.cells
    go_wp2_with (first | (go_at_call 50; go_must (refine (class_any _ _).mono ?_; rintro e w' ⟨rfl, rfl⟩)) | (go_at_call 51; go_must (refine (HS.out _).mono ?_; rintro e w' ⟨rfl, hb⟩; have HM := Lib.hid (HM.out.then hb); clear hb; obtain ⟨a0, a1, a2, a3, b0, b1, b2, b3⟩ := HM.out.cells)))
    go_ret
    exact RetBW.mk' rfl HM.out.below
  · subst h0
    have HM := Lib.hid (twoIt_made w (itBlk 27 ua sa pa) (itBlk kb ub sb pb))
    unfold itV
    go_enter Tryz.func40, Tryz.ntmps40
    go_upto_region 1 with fail
    change Code.wp _ _ _ _ ((w.alloc (itBlk 27 ua sa pa)).alloc (itBlk kb ub sb pb))
    generalize (w.alloc (itBlk 27 ua sa pa)).alloc (itBlk kb ub sb pb) = W at HM ⊢
    generalize w.heap.size + 1 = n2 at HM ⊢
    generalize hn1 : w.heap.size = n1 at HM ⊢
    obtain ⟨a0, a1, a2, a3, b0, b1, b2, b3⟩ := HM.out.cells
    go_wp2_with (first | (go_at_call 50; go_must (refine (class_any _ _).mono ?_; rintro e w' ⟨rfl, rfl⟩; rw [show clsI 27 = 1 from by decide])) | (go_at_call 51; go_must (refine (HS.out _).mono ?_; rintro e w' ⟨rfl, hb⟩; have HM := Lib.hid (HM.out.then hb); clear hb; obtain ⟨a0, a1, a2, a3, b0, b1, b2, b3⟩ := HM.out.cells)))
    go_ret
    exact RetBW.mk' rfl HM.out.below
set_option maxHeartbeats 1600000 in
set_option maxRecDepth 100000 in
theorem apart_b0 (h0 : clsI ka = 0) (hf : frontS (sgI ka sa)) (h2 : clsI kb ≠ 0) : Calls Tryz.prog 40 #[itV ka ua sa pa, itV kb ub sb pb] w (RetBW true w) := by
  have HF := Lib.hid hf
  have c0 : (clsI ka != 0) = false := by simpa using h0
  have HS := Lib.hid (signs_any ka ua sa pa)
  generalize sgI ka sa = s at HF HS
  clear hf h0
  have c2 : (clsI kb != 0) = true := by simpa using h2
  clear h2
  have HB := Lib.hid (signs_any kb ub sb pb)
  have HM := Lib.hid (twoIt_made w (itBlk ka ua sa pa) (itBlk kb ub sb pb))
  unfold itV
  go_enter Tryz.func40, Tryz.ntmps40
  go_upto_region 1 with fail
  change Code.wp _ _ _ _ ((w.alloc (itBlk ka ua sa pa)).alloc (itBlk kb ub sb pb))
  generalize (w.alloc (itBlk ka ua sa pa)).alloc (itBlk kb ub sb pb) = W at HM ⊢
  generalize w.heap.size + 1 = n2 at HM ⊢
  generalize hn1 : w.heap.size = n1 at HM ⊢
  obtain ⟨a0, a1, a2, a3, b0, b1, b2, b3⟩ := HM.out.cells
  go_upto_if 57 with (first | (go_at_call 50; go_must (refine (class_any _ _).mono ?_; rintro e w' ⟨rfl, rfl⟩)) | (go_at_call 51; go_must (refine (HS.out _).mono ?_; rintro e w' ⟨rfl, hb⟩; have HM := Lib.hid (HM.out.then hb); clear hb; obtain ⟨a0, a1, a2, a3, b0, b1, b2, b3⟩ := HM.out.cells)))
  rename World => W5
  go_cut [57] (fun x wx => x = .bool true ∧ wx = W5)
  case first =>
    have hf := HF.out
    unfold frontS at hf
    rcases hf with rfl | rfl | rfl | rfl | rfl | rfl | rfl | rfl | rfl | rfl
    all_goals
      go_wp2_with fail
      go_meet
      exact ⟨rfl, rfl⟩
  case rest =>
  obtain ⟨rfl, rfl⟩ := hcut
  go_wp2_with (first | (go_at_call 50; go_must (refine (class_any _ _).mono ?_; rintro e w' ⟨rfl, rfl⟩)) | (go_at_call 51; go_must (refine (HB.out _).mono ?_; rintro e w' ⟨rfl, hb⟩; have HM := Lib.hid (HM.out.then hb); clear hb; obtain ⟨a0, a1, a2, a3, b0, b1, b2, b3⟩ := HM.out.cells)))
  go_ret
  exact RetBW.mk' rfl HM.out.below
set_option maxHeartbeats 1600000 in
set_option maxRecDepth 100000 in
theorem apart_b4 (h0 : clsI ka = 0) (hf : frontS (sgI ka sa)) (h2 : clsI kb = 0) (hk : kb = 4) : Calls Tryz.prog 40 #[itV ka ua sa pa, itV kb ub sb pb] w (RetBW true w) := by
  have HF := Lib.hid hf
  have c0 : (clsI ka != 0) = false := by simpa using h0
  have HS := Lib.hid (signs_any ka ua sa pa)
  generalize sgI ka sa = s at HF HS
  clear hf h0
  have c2 : (clsI kb != 0) = false := by simpa using h2
  have e4 : (kb == 4) = true := by simpa using hk
  clear h2 hk
  have HB := Lib.hid (signs_any kb ub sb pb)
  have HM := Lib.hid (twoIt_made w (itBlk ka ua sa pa) (itBlk kb ub sb pb))
  unfold itV
  go_enter Tryz.func40, Tryz.ntmps40
  go_upto_region 1 with fail
  change Code.wp _ _ _ _ ((w.alloc (itBlk ka ua sa pa)).alloc (itBlk kb ub sb pb))
  generalize (w.alloc (itBlk ka ua sa pa)).alloc (itBlk kb ub sb pb) = W at HM ⊢
  generalize w.heap.size + 1 = n2 at HM ⊢
  generalize hn1 : w.heap.size = n1 at HM ⊢
  obtain ⟨a0, a1, a2, a3, b0, b1, b2, b3⟩ := HM.out.cells
  go_upto_if 57 with (first | (go_at_call 50; go_must (refine (class_any _ _).mono ?_; rintro e w' ⟨rfl, rfl⟩)) | (go_at_call 51; go_must (refine (HS.out _).mono ?_; rintro e w' ⟨rfl, hb⟩; have HM := Lib.hid (HM.out.then hb); clear hb; obtain ⟨a0, a1, a2, a3, b0, b1, b2, b3⟩ := HM.out.cells)))
  rename World => W5
  go_cut [57] (fun x wx => x = .bool true ∧ wx = W5)
  case first =>
    have hf := HF.out
    unfold frontS at hf
    rcases hf with rfl | rfl | rfl | rfl | rfl | rfl | rfl | rfl | rfl | rfl
    all_goals
      go_wp2_with fail
      go_meet
      exact ⟨rfl, rfl⟩
  case rest =>
  obtain ⟨rfl, rfl⟩ := hcut
  go_wp2_with (first | (go_at_call 50; go_must (refine (class_any _ _).mono ?_; rintro e w' ⟨rfl, rfl⟩)) | (go_at_call 51; go_must (refine (HB.out _).mono ?_; rintro e w' ⟨rfl, hb⟩; have HM := Lib.hid (HM.out.then hb); clear hb; obtain ⟨a0, a1, a2, a3, b0, b1, b2, b3⟩ := HM.out.cells)))
  go_ret
  exact RetBW.mk' rfl HM.out.below
set_option maxHeartbeats 1600000 in
set_option maxRecDepth 100000 in
theorem apart_b5 (h0 : clsI ka = 0) (hf : frontS (sgI ka sa)) (h2 : clsI kb = 0) (hk4 : kb ≠ 4) (hk : kb = 5) : Calls Tryz.prog 40 #[itV ka ua sa pa, itV kb ub sb pb] w (RetBW true w) := by
  have HF := Lib.hid hf
  have c0 : (clsI ka != 0) = false := by simpa using h0
  have HS := Lib.hid (signs_any ka ua sa pa)
  generalize sgI ka sa = s at HF HS
  clear hf h0
  have c2 : (clsI kb != 0) = false := by simpa using h2
  have e4 : (kb == 4) = false := by simpa using hk4
  have e5 : (kb == 5) = true := by simpa using hk
  clear h2 hk hk4
  have HB := Lib.hid (signs_any kb ub sb pb)
  have HM := Lib.hid (twoIt_made w (itBlk ka ua sa pa) (itBlk kb ub sb pb))
  unfold itV
  go_enter Tryz.func40, Tryz.ntmps40
  go_upto_region 1 with fail
  change Code.wp _ _ _ _ ((w.alloc (itBlk ka ua sa pa)).alloc (itBlk kb ub sb pb))
  generalize (w.alloc (itBlk ka ua sa pa)).alloc (itBlk kb ub sb pb) = W at HM ⊢
  generalize w.heap.size + 1 = n2 at HM ⊢
  generalize hn1 : w.heap.size = n1 at HM ⊢
  obtain ⟨a0, a1, a2, a3, b0, b1, b2, b3⟩ := HM.out.cells
  go_upto_if 57 with (first | (go_at_call 50; go_must (refine (class_any _ _).mono ?_; rintro e w' ⟨rfl, rfl⟩)) | (go_at_call 51; go_must (refine (HS.out _).mono ?_; rintro e w' ⟨rfl, hb⟩; have HM := Lib.hid (HM.out.then hb); clear hb; obtain ⟨a0, a1, a2, a3, b0, b1, b2, b3⟩ := HM.out.cells)))
  rename World => W5
  go_cut [57] (fun x wx => x = .bool true ∧ wx = W5)
  case first =>
    have hf := HF.out
    unfold frontS at hf
    rcases hf with rfl | rfl | rfl | rfl | rfl | rfl | rfl | rfl | rfl | rfl
    all_goals
      go_wp2_with fail
      go_meet
      exact ⟨rfl, rfl⟩
  case rest =>
  obtain ⟨rfl, rfl⟩ := hcut
  go_wp2_with (first | (go_at_call 50; go_must (refine (class_any _ _).mono ?_; rintro e w' ⟨rfl, rfl⟩)) | (go_at_call 51; go_must (refine (HB.out _).mono ?_; rintro e w' ⟨rfl, hb⟩; have HM := Lib.hid (HM.out.then hb); clear hb; obtain ⟨a0, a1, a2, a3, b0, b1, b2, b3⟩ := HM.out.cells)))
  go_ret
  exact RetBW.mk' rfl HM.out.below
set_option maxHeartbeats 1600000 in
set_option maxRecDepth 100000 in
theorem apart_bs0 (h0 : clsI ka = 0) (hf : frontS (sgI ka sa)) (h2 : clsI kb = 0) (hk4 : kb ≠ 4) (hk : kb ≠ 5) (hb : sgI kb sb = 0) : Calls Tryz.prog 40 #[itV ka ua sa pa, itV kb ub sb pb] w (RetBW false w) := by
  have HF := Lib.hid hf
  have c0 : (clsI ka != 0) = false := by simpa using h0
  have HS := Lib.hid (signs_any ka ua sa pa)
  generalize sgI ka sa = s at HF HS
  clear hf h0
  have c2 : (clsI kb != 0) = false := by simpa using h2
  have e4 : (kb == 4) = false := by simpa using hk4
  have e5 : (kb == 5) = false := by simpa using hk
  clear h2 hk hk4
  have HB := Lib.hid (signs_any kb ub sb pb)
  rw [hb] at HB
  clear hb
  have HM := Lib.hid (twoIt_made w (itBlk ka ua sa pa) (itBlk kb ub sb pb))
  unfold itV
  go_enter Tryz.func40, Tryz.ntmps40
  go_upto_region 1 with fail
  change Code.wp _ _ _ _ ((w.alloc (itBlk ka ua sa pa)).alloc (itBlk kb ub sb pb))
  generalize (w.alloc (itBlk ka ua sa pa)).alloc (itBlk kb ub sb pb) = W at HM ⊢
  generalize w.heap.size + 1 = n2 at HM ⊢
  generalize hn1 : w.heap.size = n1 at HM ⊢
  obtain ⟨a0, a1, a2, a3, b0, b1, b2, b3⟩ := HM.out.cells
  go_upto_if 57 with (first | (go_at_call 50; go_must (refine (class_any _ _).mono ?_; rintro e w' ⟨rfl, rfl⟩)) | (go_at_call 51; go_must (refine (HS.out _).mono ?_; rintro e w' ⟨rfl, hb⟩; have HM := Lib.hid (HM.out.then hb); clear hb; obtain ⟨a0, a1, a2, a3, b0, b1, b2, b3⟩ := HM.out.cells)))
  rename World => W5
  go_cut [57] (fun x wx => x = .bool true ∧ wx = W5)
  case first =>
    have hf := HF.out
    unfold frontS at hf
    rcases hf with rfl | rfl | rfl | rfl | rfl | rfl | rfl | rfl | rfl | rfl
    all_goals
      go_wp2_with fail
      go_meet
      exact ⟨rfl, rfl⟩
  case rest =>
  obtain ⟨rfl, rfl⟩ := hcut
  go_wp2_with (first | (go_at_call 50; go_must (refine (class_any _ _).mono ?_; rintro e w' ⟨rfl, rfl⟩)) | (go_at_call 51; go_must (refine (HB.out _).mono ?_; rintro e w' ⟨rfl, hb⟩; have HM := Lib.hid (HM.out.then hb); clear hb; obtain ⟨a0, a1, a2, a3, b0, b1, b2, b3⟩ := HM.out.cells)))
  go_ret
  exact RetBW.mk' rfl HM.out.below
set_option maxHeartbeats 1600000 in
set_option maxRecDepth 100000 in
theorem apart_bs44 (h0 : clsI ka = 0) (hf : frontS (sgI ka sa)) (h2 : clsI kb = 0) (hk4 : kb ≠ 4) (hk : kb ≠ 5) (hb : sgI kb sb = 44) : Calls Tryz.prog 40 #[itV ka ua sa pa, itV kb ub sb pb] w (RetBW false w) := by
  have HF := Lib.hid hf
  have c0 : (clsI ka != 0) = false := by simpa using h0
  have HS := Lib.hid (signs_any ka ua sa pa)
  generalize sgI ka sa = s at HF HS
  clear hf h0
  have c2 : (clsI kb != 0) = false := by simpa using h2
  have e4 : (kb == 4) = false := by simpa using hk4
  have e5 : (kb == 5) = false := by simpa using hk
  clear h2 hk hk4
  have HB := Lib.hid (signs_any kb ub sb pb)
  rw [hb] at HB
  clear hb
  have HM := Lib.hid (twoIt_made w (itBlk ka ua sa pa) (itBlk kb ub sb pb))
  unfold itV
  go_enter Tryz.func40, Tryz.ntmps40
  go_upto_region 1 with fail
  change Code.wp _ _ _ _ ((w.alloc (itBlk ka ua sa pa)).alloc (itBlk kb ub sb pb))
  generalize (w.alloc (itBlk ka ua sa pa)).alloc (itBlk kb ub sb pb) = W at HM ⊢
  generalize w.heap.size + 1 = n2 at HM ⊢
  generalize hn1 : w.heap.size = n1 at HM ⊢
  obtain ⟨a0, a1, a2, a3, b0, b1, b2, b3⟩ := HM.out.cells
  go_upto_if 57 with (first | (go_at_call 50; go_must (refine (class_any _ _).mono ?_; rintro e w' ⟨rfl, rfl⟩)) | (go_at_call 51; go_must (refine (HS.out _).mono ?_; rintro e w' ⟨rfl, hb⟩; have HM := Lib.hid (HM.out.then hb); clear hb; obtain ⟨a0, a1, a2, a3, b0, b1, b2, b3⟩ := HM.out.cells)))
  rename World => W5
  go_cut [57] (fun x wx => x = .bool true ∧ wx = W5)
  case first =>
    have hf := HF.out
    unfold frontS at hf
    rcases hf with rfl | rfl | rfl | rfl | rfl | rfl | rfl | rfl | rfl | rfl
    all_goals
      go_wp2_with fail
      go_meet
      exact ⟨rfl, rfl⟩
  case rest =>
  obtain ⟨rfl, rfl⟩ := hcut
  go_wp2_with (first | (go_at_call 50; go_must (refine (class_any _ _).mono ?_; rintro e w' ⟨rfl, rfl⟩)) | (go_at_call 51; go_must (refine (HB.out _).mono ?_; rintro e w' ⟨rfl, hb⟩; have HM := Lib.hid (HM.out.then hb); clear hb; obtain ⟨a0, a1, a2, a3, b0, b1, b2, b3⟩ := HM.out.cells)))
  go_ret
  exact RetBW.mk' rfl HM.out.below
set_option maxHeartbeats 1600000 in
set_option maxRecDepth 100000 in
theorem apart_bs59 (h0 : clsI ka = 0) (hf : frontS (sgI ka sa)) (h2 : clsI kb = 0) (hk4 : kb ≠ 4) (hk : kb ≠ 5) (hb : sgI kb sb = 59) : Calls Tryz.prog 40 #[itV ka ua sa pa, itV kb ub sb pb] w (RetBW false w) := by
  have HF := Lib.hid hf
  have c0 : (clsI ka != 0) = false := by simpa using h0
  have HS := Lib.hid (signs_any ka ua sa pa)
  generalize sgI ka sa = s at HF HS
  clear hf h0
  have c2 : (clsI kb != 0) = false := by simpa using h2
  have e4 : (kb == 4) = false := by simpa using hk4
  have e5 : (kb == 5) = false := by simpa using hk
  clear h2 hk hk4
  have HB := Lib.hid (signs_any kb ub sb pb)
  rw [hb] at HB
  clear hb
  have HM := Lib.hid (twoIt_made w (itBlk ka ua sa pa) (itBlk kb ub sb pb))
  unfold itV
  go_enter Tryz.func40, Tryz.ntmps40
  go_upto_region 1 with fail
  change Code.wp _ _ _ _ ((w.alloc (itBlk ka ua sa pa)).alloc (itBlk kb ub sb pb))
  generalize (w.alloc (itBlk ka ua sa pa)).alloc (itBlk kb ub sb pb) = W at HM ⊢
  generalize w.heap.size + 1 = n2 at HM ⊢
  generalize hn1 : w.heap.size = n1 at HM ⊢
  obtain ⟨a0, a1, a2, a3, b0, b1, b2, b3⟩ := HM.out.cells
  go_upto_if 57 with (first | (go_at_call 50; go_must (refine (class_any _ _).mono ?_; rintro e w' ⟨rfl, rfl⟩)) | (go_at_call 51; go_must (refine (HS.out _).mono ?_; rintro e w' ⟨rfl, hb⟩; have HM := Lib.hid (HM.out.then hb); clear hb; obtain ⟨a0, a1, a2, a3, b0, b1, b2, b3⟩ := HM.out.cells)))
  rename World => W5
  go_cut [57] (fun x wx => x = .bool true ∧ wx = W5)
  case first =>
    have hf := HF.out
    unfold frontS at hf
    rcases hf with rfl | rfl | rfl | rfl | rfl | rfl | rfl | rfl | rfl | rfl
    all_goals
      go_wp2_with fail
      go_meet
      exact ⟨rfl, rfl⟩
  case rest =>
  obtain ⟨rfl, rfl⟩ := hcut
  go_wp2_with (first | (go_at_call 50; go_must (refine (class_any _ _).mono ?_; rintro e w' ⟨rfl, rfl⟩)) | (go_at_call 51; go_must (refine (HB.out _).mono ?_; rintro e w' ⟨rfl, hb⟩; have HM := Lib.hid (HM.out.then hb); clear hb; obtain ⟨a0, a1, a2, a3, b0, b1, b2, b3⟩ := HM.out.cells)))
  go_ret
  exact RetBW.mk' rfl HM.out.below
set_option maxHeartbeats 1600000 in
set_option maxRecDepth 100000 in
theorem apart_bs58 (h0 : clsI ka = 0) (hf : frontS (sgI ka sa)) (h2 : clsI kb = 0) (hk4 : kb ≠ 4) (hk : kb ≠ 5) (hb : sgI kb sb = 58) : Calls Tryz.prog 40 #[itV ka ua sa pa, itV kb ub sb pb] w (RetBW false w) := by
  have HF := Lib.hid hf
  have c0 : (clsI ka != 0) = false := by simpa using h0
  have HS := Lib.hid (signs_any ka ua sa pa)
  generalize sgI ka sa = s at HF HS
  clear hf h0
  have c2 : (clsI kb != 0) = false := by simpa using h2
  have e4 : (kb == 4) = false := by simpa using hk4
  have e5 : (kb == 5) = false := by simpa using hk
  clear h2 hk hk4
  have HB := Lib.hid (signs_any kb ub sb pb)
  rw [hb] at HB
  clear hb
  have HM := Lib.hid (twoIt_made w (itBlk ka ua sa pa) (itBlk kb ub sb pb))
  unfold itV
  go_enter Tryz.func40, Tryz.ntmps40
  go_upto_region 1 with fail
  change Code.wp _ _ _ _ ((w.alloc (itBlk ka ua sa pa)).alloc (itBlk kb ub sb pb))
  generalize (w.alloc (itBlk ka ua sa pa)).alloc (itBlk kb ub sb pb) = W at HM ⊢
  generalize w.heap.size + 1 = n2 at HM ⊢
  generalize hn1 : w.heap.size = n1 at HM ⊢
  obtain ⟨a0, a1, a2, a3, b0, b1, b2, b3⟩ := HM.out.cells
  go_upto_if 57 with (first | (go_at_call 50; go_must (refine (class_any _ _).mono ?_; rintro e w' ⟨rfl, rfl⟩)) | (go_at_call 51; go_must (refine (HS.out _).mono ?_; rintro e w' ⟨rfl, hb⟩; have HM := Lib.hid (HM.out.then hb); clear hb; obtain ⟨a0, a1, a2, a3, b0, b1, b2, b3⟩ := HM.out.cells)))
  rename World => W5
  go_cut [57] (fun x wx => x = .bool true ∧ wx = W5)
  case first =>
    have hf := HF.out
    unfold frontS at hf
    rcases hf with rfl | rfl | rfl | rfl | rfl | rfl | rfl | rfl | rfl | rfl
    all_goals
      go_wp2_with fail
      go_meet
      exact ⟨rfl, rfl⟩
  case rest =>
  obtain ⟨rfl, rfl⟩ := hcut
  go_wp2_with (first | (go_at_call 50; go_must (refine (class_any _ _).mono ?_; rintro e w' ⟨rfl, rfl⟩)) | (go_at_call 51; go_must (refine (HB.out _).mono ?_; rintro e w' ⟨rfl, hb⟩; have HM := Lib.hid (HM.out.then hb); clear hb; obtain ⟨a0, a1, a2, a3, b0, b1, b2, b3⟩ := HM.out.cells)))
  go_ret
  exact RetBW.mk' rfl HM.out.below
set_option maxHeartbeats 1600000 in
set_option maxRecDepth 100000 in
theorem apart_bs123 (h0 : clsI ka = 0) (hf : frontS (sgI ka sa)) (h2 : clsI kb = 0) (hk4 : kb ≠ 4) (hk : kb ≠ 5) (hb : sgI kb sb = 123) : Calls Tryz.prog 40 #[itV ka ua sa pa, itV kb ub sb pb] w (RetBW false w) := by
  have HF := Lib.hid hf
  have c0 : (clsI ka != 0) = false := by simpa using h0
  have HS := Lib.hid (signs_any ka ua sa pa)
  generalize sgI ka sa = s at HF HS
  clear hf h0
  have c2 : (clsI kb != 0) = false := by simpa using h2
  have e4 : (kb == 4) = false := by simpa using hk4
  have e5 : (kb == 5) = false := by simpa using hk
  clear h2 hk hk4
  have HB := Lib.hid (signs_any kb ub sb pb)
  rw [hb] at HB
  clear hb
  have HM := Lib.hid (twoIt_made w (itBlk ka ua sa pa) (itBlk kb ub sb pb))
  unfold itV
  go_enter Tryz.func40, Tryz.ntmps40
  go_upto_region 1 with fail
  change Code.wp _ _ _ _ ((w.alloc (itBlk ka ua sa pa)).alloc (itBlk kb ub sb pb))
  generalize (w.alloc (itBlk ka ua sa pa)).alloc (itBlk kb ub sb pb) = W at HM ⊢
  generalize w.heap.size + 1 = n2 at HM ⊢
  generalize hn1 : w.heap.size = n1 at HM ⊢
  obtain ⟨a0, a1, a2, a3, b0, b1, b2, b3⟩ := HM.out.cells
  go_upto_if 57 with (first | (go_at_call 50; go_must (refine (class_any _ _).mono ?_; rintro e w' ⟨rfl, rfl⟩)) | (go_at_call 51; go_must (refine (HS.out _).mono ?_; rintro e w' ⟨rfl, hb⟩; have HM := Lib.hid (HM.out.then hb); clear hb; obtain ⟨a0, a1, a2, a3, b0, b1, b2, b3⟩ := HM.out.cells)))
  rename World => W5
  go_cut [57] (fun x wx => x = .bool true ∧ wx = W5)
  case first =>
    have hf := HF.out
    unfold frontS at hf
    rcases hf with rfl | rfl | rfl | rfl | rfl | rfl | rfl | rfl | rfl | rfl
    all_goals
      go_wp2_with fail
      go_meet
      exact ⟨rfl, rfl⟩
  case rest =>
  obtain ⟨rfl, rfl⟩ := hcut
  go_wp2_with (first | (go_at_call 50; go_must (refine (class_any _ _).mono ?_; rintro e w' ⟨rfl, rfl⟩)) | (go_at_call 51; go_must (refine (HB.out _).mono ?_; rintro e w' ⟨rfl, hb⟩; have HM := Lib.hid (HM.out.then hb); clear hb; obtain ⟨a0, a1, a2, a3, b0, b1, b2, b3⟩ := HM.out.cells)))
  go_ret
  exact RetBW.mk' rfl HM.out.below
set_option maxHeartbeats 1600000 in
set_option maxRecDepth 100000 in
theorem apart_bs91 (h0 : clsI ka = 0) (hf : frontS (sgI ka sa)) (h2 : clsI kb = 0) (hk4 : kb ≠ 4) (hk : kb ≠ 5) (hb : sgI kb sb = 91) : Calls Tryz.prog 40 #[itV ka ua sa pa, itV kb ub sb pb] w (RetBW false w) := by
  have HF := Lib.hid hf
  have c0 : (clsI ka != 0) = false := by simpa using h0
  have HS := Lib.hid (signs_any ka ua sa pa)
  generalize sgI ka sa = s at HF HS
  clear hf h0
  have c2 : (clsI kb != 0) = false := by simpa using h2
  have e4 : (kb == 4) = false := by simpa using hk4
  have e5 : (kb == 5) = false := by simpa using hk
  clear h2 hk hk4
  have HB := Lib.hid (signs_any kb ub sb pb)
  rw [hb] at HB
  clear hb
  have HM := Lib.hid (twoIt_made w (itBlk ka ua sa pa) (itBlk kb ub sb pb))
  unfold itV
  go_enter Tryz.func40, Tryz.ntmps40
  go_upto_region 1 with fail
  change Code.wp _ _ _ _ ((w.alloc (itBlk ka ua sa pa)).alloc (itBlk kb ub sb pb))
  generalize (w.alloc (itBlk ka ua sa pa)).alloc (itBlk kb ub sb pb) = W at HM ⊢
  generalize w.heap.size + 1 = n2 at HM ⊢
  generalize hn1 : w.heap.size = n1 at HM ⊢
  obtain ⟨a0, a1, a2, a3, b0, b1, b2, b3⟩ := HM.out.cells
  go_upto_if 57 with (first | (go_at_call 50; go_must (refine (class_any _ _).mono ?_; rintro e w' ⟨rfl, rfl⟩)) | (go_at_call 51; go_must (refine (HS.out _).mono ?_; rintro e w' ⟨rfl, hb⟩; have HM := Lib.hid (HM.out.then hb); clear hb; obtain ⟨a0, a1, a2, a3, b0, b1, b2, b3⟩ := HM.out.cells)))
  rename World => W5
  go_cut [57] (fun x wx => x = .bool true ∧ wx = W5)
  case first =>
    have hf := HF.out
    unfold frontS at hf
    rcases hf with rfl | rfl | rfl | rfl | rfl | rfl | rfl | rfl | rfl | rfl
    all_goals
      go_wp2_with fail
      go_meet
      exact ⟨rfl, rfl⟩
  case rest =>
  obtain ⟨rfl, rfl⟩ := hcut
  go_wp2_with (first | (go_at_call 50; go_must (refine (class_any _ _).mono ?_; rintro e w' ⟨rfl, rfl⟩)) | (go_at_call 51; go_must (refine (HB.out _).mono ?_; rintro e w' ⟨rfl, hb⟩; have HM := Lib.hid (HM.out.then hb); clear hb; obtain ⟨a0, a1, a2, a3, b0, b1, b2, b3⟩ := HM.out.cells)))
  go_ret
  exact RetBW.mk' rfl HM.out.below
set_option maxHeartbeats 1600000 in
set_option maxRecDepth 100000 in
theorem apart_bs40 (h0 : clsI ka = 0) (hf : frontS (sgI ka sa)) (h2 : clsI kb = 0) (hk4 : kb ≠ 4) (hk : kb ≠ 5) (hb : sgI kb sb = 40) : Calls Tryz.prog 40 #[itV ka ua sa pa, itV kb ub sb pb] w (RetBW false w) := by
  have HF := Lib.hid hf
  have c0 : (clsI ka != 0) = false := by simpa using h0
  have HS := Lib.hid (signs_any ka ua sa pa)
  generalize sgI ka sa = s at HF HS
  clear hf h0
  have c2 : (clsI kb != 0) = false := by simpa using h2
  have e4 : (kb == 4) = false := by simpa using hk4
  have e5 : (kb == 5) = false := by simpa using hk
  clear h2 hk hk4
  have HB := Lib.hid (signs_any kb ub sb pb)
  rw [hb] at HB
  clear hb
  have HM := Lib.hid (twoIt_made w (itBlk ka ua sa pa) (itBlk kb ub sb pb))
  unfold itV
  go_enter Tryz.func40, Tryz.ntmps40
  go_upto_region 1 with fail
  change Code.wp _ _ _ _ ((w.alloc (itBlk ka ua sa pa)).alloc (itBlk kb ub sb pb))
  generalize (w.alloc (itBlk ka ua sa pa)).alloc (itBlk kb ub sb pb) = W at HM ⊢
  generalize w.heap.size + 1 = n2 at HM ⊢
  generalize hn1 : w.heap.size = n1 at HM ⊢
  obtain ⟨a0, a1, a2, a3, b0, b1, b2, b3⟩ := HM.out.cells
  go_upto_if 57 with (first | (go_at_call 50; go_must (refine (class_any _ _).mono ?_; rintro e w' ⟨rfl, rfl⟩)) | (go_at_call 51; go_must (refine (HS.out _).mono ?_; rintro e w' ⟨rfl, hb⟩; have HM := Lib.hid (HM.out.then hb); clear hb; obtain ⟨a0, a1, a2, a3, b0, b1, b2, b3⟩ := HM.out.cells)))
  rename World => W5
  go_cut [57] (fun x wx => x = .bool true ∧ wx = W5)
  case first =>
    have hf := HF.out
    unfold frontS at hf
    rcases hf with rfl | rfl | rfl | rfl | rfl | rfl | rfl | rfl | rfl | rfl
    all_goals
      go_wp2_with fail
      go_meet
      exact ⟨rfl, rfl⟩
  case rest =>
  obtain ⟨rfl, rfl⟩ := hcut
  go_wp2_with (first | (go_at_call 50; go_must (refine (class_any _ _).mono ?_; rintro e w' ⟨rfl, rfl⟩)) | (go_at_call 51; go_must (refine (HB.out _).mono ?_; rintro e w' ⟨rfl, hb⟩; have HM := Lib.hid (HM.out.then hb); clear hb; obtain ⟨a0, a1, a2, a3, b0, b1, b2, b3⟩ := HM.out.cells)))
  go_ret
  exact RetBW.mk' rfl HM.out.below
set_option maxHeartbeats 1600000 in
set_option maxRecDepth 100000 in
theorem apart_bt (h0 : clsI ka = 0) (hf : frontS (sgI ka sa)) (h2 : clsI kb = 0) (hk4 : kb ≠ 4) (hk : kb ≠ 5) (hb : backS (sgI kb sb)) : Calls Tryz.prog 40 #[itV ka ua sa pa, itV kb ub sb pb] w (RetBW true w) := by
  have HF := Lib.hid hf
  have c0 : (clsI ka != 0) = false := by simpa using h0
  have HS := Lib.hid (signs_any ka ua sa pa)
  generalize sgI ka sa = s at HF HS
  clear hf h0
  have c2 : (clsI kb != 0) = false := by simpa using h2
  have e4 : (kb == 4) = false := by simpa using hk4
  have e5 : (kb == 5) = false := by simpa using hk
  clear h2 hk hk4
  have HB := Lib.hid (signs_any kb ub sb pb)
  unfold backS at hb
  generalize sgI kb sb = y at HB hb
  obtain ⟨y0, y44, y59, y58, y123, y91, y40⟩ := hb
  have z0 : (y != 0) = true := by simpa using y0
  have z44 : (y != 44) = true := by simpa using y44
  have z59 : (y != 59) = true := by simpa using y59
  have z58 : (y != 58) = true := by simpa using y58
  have z123 : (y != 123) = true := by simpa using y123
  have z91 : (y != 91) = true := by simpa using y91
  have z40 : (y != 40) = true := by simpa using y40
  clear y0 y44 y59 y58 y123 y91 y40
  have HM := Lib.hid (twoIt_made w (itBlk ka ua sa pa) (itBlk kb ub sb pb))
  unfold itV
  go_enter Tryz.func40, Tryz.ntmps40
  go_upto_region 1 with fail
  change Code.wp _ _ _ _ ((w.alloc (itBlk ka ua sa pa)).alloc (itBlk kb ub sb pb))
  generalize (w.alloc (itBlk ka ua sa pa)).alloc (itBlk kb ub sb pb) = W at HM ⊢
  generalize w.heap.size + 1 = n2 at HM ⊢
  generalize hn1 : w.heap.size = n1 at HM ⊢
  obtain ⟨a0, a1, a2, a3, b0, b1, b2, b3⟩ := HM.out.cells
  go_upto_if 57 with (first | (go_at_call 50; go_must (refine (class_any _ _).mono ?_; rintro e w' ⟨rfl, rfl⟩)) | (go_at_call 51; go_must (refine (HS.out _).mono ?_; rintro e w' ⟨rfl, hb⟩; have HM := Lib.hid (HM.out.then hb); clear hb; obtain ⟨a0, a1, a2, a3, b0, b1, b2, b3⟩ := HM.out.cells)))
  rename World => W5
  go_cut [57] (fun x wx => x = .bool true ∧ wx = W5)
  case first =>
    have hf := HF.out
    unfold frontS at hf
    rcases hf with rfl | rfl | rfl | rfl | rfl | rfl | rfl | rfl | rfl | rfl
    all_goals
      go_wp2_with fail
      go_meet
      exact ⟨rfl, rfl⟩
  case rest =>
  obtain ⟨rfl, rfl⟩ := hcut
  go_wp2_with (first | (go_at_call 50; go_must (refine (class_any _ _).mono ?_; rintro e w' ⟨rfl, rfl⟩)) | (go_at_call 51; go_must (refine (HB.out _).mono ?_; rintro e w' ⟨rfl, hb⟩; have HM := Lib.hid (HM.out.then hb); clear hb; obtain ⟨a0, a1, a2, a3, b0, b1, b2, b3⟩ := HM.out.cells)))
  go_ret
  exact RetBW.mk' rfl HM.out.below
end
theorem apart_any (ka ua : Int) (sa : ByteArray) (pa kb ub : Int) (sb : ByteArray) (pb : Int) (w : World) : Calls Tryz.prog 40 #[itV ka ua sa pa, itV kb ub sb pb] w (RetBW (apB ka sa kb sb) w) := by
  unfold apB
  by_cases ha : clsI ka ≠ 0 ∧ ka ≠ 27
  · rw [if_pos ha]
    by_cases h2 : clsI kb = 0
    · by_cases k22 : kb = 22
      · rw [decide_eq_true (by omega)]; exact apart_a22 ka ua sa pa kb ub sb pb w ha.1 ha.2 h2  k22
      · by_cases k4 : kb = 4
        · rw [decide_eq_true (by omega)]; exact apart_a4 ka ua sa pa kb ub sb pb w ha.1 ha.2 h2 k22 k4
        · by_cases k33 : kb = 33
          · rw [decide_eq_true (by omega)]; exact apart_a33 ka ua sa pa kb ub sb pb w ha.1 ha.2 h2 k22 k4 k33
          · by_cases k11 : kb = 11
            · rw [decide_eq_true (by omega)]; exact apart_a11 ka ua sa pa kb ub sb pb w ha.1 ha.2 h2 k22 k4 k33 k11
            · by_cases k17 : kb = 17
              · rw [decide_eq_true (by omega)]; exact apart_a17 ka ua sa pa kb ub sb pb w ha.1 ha.2 h2 k22 k4 k33 k11 k17
              · by_cases k23 : kb = 23
                · rw [decide_eq_true (by omega)]; exact apart_a23 ka ua sa pa kb ub sb pb w ha.1 ha.2 h2 k22 k4 k33 k11 k17 k23
                · by_cases k20 : kb = 20
                  · rw [decide_eq_true (by omega)]; exact apart_a20 ka ua sa pa kb ub sb pb w ha.1 ha.2 h2 k22 k4 k33 k11 k17 k23 k20
                  · rw [decide_eq_false (by omega)]; exact apart_an ka ua sa pa kb ub sb pb w ha.1 ha.2 h2 k22 k4 k33 k11 k17 k23 k20
    · rw [decide_eq_true (.inl h2)]; exact apart_a0 ka ua sa pa kb ub sb pb w ha.1 ha.2 h2
  · rw [if_neg ha]
    have h0 : clsI ka = 0 ∨ ka = 27 := by omega
    by_cases hf : frontS (sgI ka sa)
    · have h1 : clsI ka = 0 := by
        rcases h0 with h0 | h0
        · exact h0
        · exfalso
          subst h0
          have : sgI 27 sa = 0 := by unfold sgI; rw [if_neg (fun h => absurd h.1 (by decide))]
          rw [this] at hf
          exact absurd hf (by decide)
      rw [decide_eq_true hf, Bool.true_and]
      by_cases h2 : clsI kb = 0
      · by_cases hk4 : kb = 4
        · rw [decide_eq_true (.inr (.inl hk4))]; exact apart_b4 ka ua sa pa kb ub sb pb w h1 hf h2 hk4
        · by_cases hk5 : kb = 5
          · rw [decide_eq_true (.inr (.inr (.inl hk5)))]; exact apart_b5 ka ua sa pa kb ub sb pb w h1 hf h2 hk4 hk5
          · by_cases hb : backS (sgI kb sb)
            · rw [decide_eq_true (.inr (.inr (.inr hb)))]; exact apart_bt ka ua sa pa kb ub sb pb w h1 hf h2 hk4 hk5 hb
            · rw [decide_eq_false (fun h => h.elim (fun h => h h2) fun h => h.elim hk4 fun h => h.elim hk5 hb)]
              have hb' := hb
              unfold backS at hb'
              have hb2 : sgI kb sb = 0 ∨ sgI kb sb = 44 ∨ sgI kb sb = 59 ∨ sgI kb sb = 58 ∨ sgI kb sb = 123 ∨ sgI kb sb = 91 ∨ sgI kb sb = 40 := by omega
              rcases hb2 with h | h | h | h | h | h | h
              · exact apart_bs0 ka ua sa pa kb ub sb pb w h1 hf h2 hk4 hk5 h
              · exact apart_bs44 ka ua sa pa kb ub sb pb w h1 hf h2 hk4 hk5 h
              · exact apart_bs59 ka ua sa pa kb ub sb pb w h1 hf h2 hk4 hk5 h
              · exact apart_bs58 ka ua sa pa kb ub sb pb w h1 hf h2 hk4 hk5 h
              · exact apart_bs123 ka ua sa pa kb ub sb pb w h1 hf h2 hk4 hk5 h
              · exact apart_bs91 ka ua sa pa kb ub sb pb w h1 hf h2 hk4 hk5 h
              · exact apart_bs40 ka ua sa pa kb ub sb pb w h1 hf h2 hk4 hk5 h
      · rw [decide_eq_true (.inl h2)]; exact apart_b0 ka ua sa pa kb ub sb pb w h1 hf h2
    · rw [decide_eq_false hf, Bool.false_and]; exact apart_bn ka ua sa pa kb ub sb pb w h0 hf
end Go.Proofs.YtkfdcbdlcipmfaaGreatFmt
