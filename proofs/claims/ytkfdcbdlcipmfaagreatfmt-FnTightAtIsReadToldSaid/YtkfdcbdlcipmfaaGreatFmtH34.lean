/- Walks: the reference: a node that can be printed. Printed by genS23.py. -/
import Derived.Test.YtkfdcbdlcipmfaaGreatFmtH33
import Derived.Test.YtkfdcbdlcipmfaaGreatFmtH07
import Derived.Test.YtkfdcbdlcipmfaaGreatFmtH08
set_option linter.unusedVariables false
set_option linter.unusedSimpArgs false
namespace Go.Proofs.YtkfdcbdlcipmfaaGreatFmt
open Go.RowKit Css
def nV (k u d : Int) (s : ByteArray) (b a : Bool) : Value := .agg #[.int .i64 k, .int .i64 u, .int .i64 d, .string s, .bool b, .bool a]
def rnOf (k u d : Int) (s : ByteArray) (b a : Bool) : RN := ⟨k, u, d, s.data.toList, b, a⟩
abbrev nBlk (k u d : Int) (s : ByteArray) (b a : Bool) := (.cells #[.int .i64 k, .int .i64 u, .int .i64 d, .string s, .bool b, .bool a] 50 : Obj)
theorem isNode_name {k u d : Int} {s : ByteArray} {b a : Bool} (h : nameKind k) : isNodeB (rnOf k u d s b a) = isNameB s.data.toList := by
  unfold isNodeB rnOf; rw [if_pos h]
theorem isNode_func {u d : Int} {s : ByteArray} {b a : Bool} : isNodeB (rnOf 27 u d s b a) = (isNameB s.data.toList && !isUrlB s.data.toList) := by
  unfold isNodeB rnOf; rw [if_neg (by simp [nameKind]), if_pos rfl]
theorem isNode_str {u d : Int} {s : ByteArray} {b a : Bool} : isNodeB (rnOf 36 u d s b a) = okDec s.data.toList := by
  unfold isNodeB rnOf; rw [if_neg (by simp [nameKind]), if_neg (by simp [nameKind]), if_pos rfl]
theorem isNode_num {k u d : Int} {s : ByteArray} {b a : Bool} (h : k = 30 ∨ k = 34) : isNodeB (rnOf k u d s b a) = loneB s.data.toList k := by
  unfold isNodeB rnOf
  rw [if_neg (by show ¬ nameKind k; unfold nameKind; omega), if_neg (by show ¬ k = 27; omega), if_neg (by show ¬ k = 36; omega), if_pos h]
theorem isNode_sign {k u d : Int} {s : ByteArray} {b a : Bool} (h : signLike k) : isNodeB (rnOf k u d s b a) = (!(s.data.toList == [92]) && loneB s.data.toList k) := by
  have h' := h
  unfold signLike at h'
  unfold isNodeB rnOf
  rw [if_neg (by show ¬ nameKind k; unfold nameKind; omega), if_neg (by show ¬ k = 27; omega), if_neg (by show ¬ k = 36; omega), if_neg (by show ¬ (k = 30 ∨ k = 34); omega), if_neg (by show ¬ k = 26; omega), if_pos h]
theorem nBlk_below (k u d : Int) (s : ByteArray) (b a : Bool) (w : World) : Hid (Below w.heap.size w (w.alloc (nBlk k u d s b a))) := (Below.refl _ _).alloc (Nat.le_refl _) _
theorem node_kept {k u d : Int} {s : ByteArray} {b a : Bool} {w w1 : World} (h : Below (w.alloc (nBlk k u d s b a)).heap.size (w.alloc (nBlk k u d s b a)) w1) : w1.heap[w.heap.size]? = some (nBlk k u d s b a) := by
  rw [h.block _ (by show w.heap.size < (w.heap.push _).size; rw [Array.size_push]; omega)]
  show (w.heap.push _)[w.heap.size]? = _
  simp
theorem below_join {w w1 : World} {o : Obj} (h0 : Hid (Below w.heap.size w (w.alloc o))) (h : Hid (Below (w.alloc o).heap.size (w.alloc o) w1)) : Below w.heap.size w w1 := h0.out.trans (h.out.mono (by show _ ≤ (w.heap.push o).size; rw [Array.size_push]; omega))
set_option maxHeartbeats 1600000 in
set_option maxRecDepth 100000 in
theorem isNode_k29 (u d : Int) (s : ByteArray) (b a : Bool) (hs : (s.size : Int) ≤ 2147483647) (w : World) : Calls Tryz.prog 37 #[nV 29 u d s b a] w (RetBW (isNodeB (rnOf 29 u d s b a)) w) := by
  have HS := Lib.hid hs
  have HB := nBlk_below 29 u d s b a w
  rw [isNode_name (by unfold nameKind; decide)]
  clear hs
  unfold nV
  go_enter Tryz.func37, Tryz.ntmps37
  go_wp2_with (go_at_call 42; go_must (refine (isName_any _ HS.out _).mono ?_; rintro e w' ⟨rfl, rfl⟩))
  go_ret
  exact RetBW.mk' rfl HB.out
set_option maxHeartbeats 1600000 in
set_option maxRecDepth 100000 in
theorem isNode_k28 (u d : Int) (s : ByteArray) (b a : Bool) (hs : (s.size : Int) ≤ 2147483647) (w : World) : Calls Tryz.prog 37 #[nV 28 u d s b a] w (RetBW (isNodeB (rnOf 28 u d s b a)) w) := by
  have HS := Lib.hid hs
  have HB := nBlk_below 28 u d s b a w
  rw [isNode_name (by unfold nameKind; decide)]
  clear hs
  unfold nV
  go_enter Tryz.func37, Tryz.ntmps37
  go_wp2_with (go_at_call 42; go_must (refine (isName_any _ HS.out _).mono ?_; rintro e w' ⟨rfl, rfl⟩))
  go_ret
  exact RetBW.mk' rfl HB.out
set_option maxHeartbeats 1600000 in
set_option maxRecDepth 100000 in
theorem isNode_k1 (u d : Int) (s : ByteArray) (b a : Bool) (hs : (s.size : Int) ≤ 2147483647) (w : World) : Calls Tryz.prog 37 #[nV 1 u d s b a] w (RetBW (isNodeB (rnOf 1 u d s b a)) w) := by
  have HS := Lib.hid hs
  have HB := nBlk_below 1 u d s b a w
  rw [isNode_name (by unfold nameKind; decide)]
  clear hs
  unfold nV
  go_enter Tryz.func37, Tryz.ntmps37
  go_wp2_with (go_at_call 42; go_must (refine (isName_any _ HS.out _).mono ?_; rintro e w' ⟨rfl, rfl⟩))
  go_ret
  exact RetBW.mk' rfl HB.out
set_option maxHeartbeats 1600000 in
set_option maxRecDepth 100000 in
theorem isNode_k27 (u d : Int) (s : ByteArray) (b a : Bool) (hs : (s.size : Int) ≤ 2147483647) (w : World) : Calls Tryz.prog 37 #[nV 27 u d s b a] w (RetBW (isNodeB (rnOf 27 u d s b a)) w) := by
  have HS := Lib.hid hs
  have HB := nBlk_below 27 u d s b a w
  rw [isNode_func]
  clear hs
  cases hn : isNameB s.data.toList
  · have HN := Lib.hid hn
    clear hn
    unfold nV
    go_enter Tryz.func37, Tryz.ntmps37
    go_wp2_with (go_at_call 42; go_must (refine (isName_any _ HS.out _).mono ?_; rintro e w' ⟨rfl, rfl⟩; rw [HN.out]))
    go_ret
    exact RetBW.mk' rfl HB.out
  · have HN := Lib.hid hn
    clear hn
    unfold nV
    go_enter Tryz.func37, Tryz.ntmps37
    go_wp2_with first | (go_at_call 42; go_must (refine (isName_any _ HS.out _).mono ?_; rintro e w' ⟨rfl, rfl⟩; rw [HN.out])) | (go_at_call 48; go_must (refine (isURL_any _ _).mono ?_; rintro e w' ⟨rfl, rfl⟩))
    go_ret
    exact RetBW.mk' (by simp) HB.out
set_option maxHeartbeats 1600000 in
set_option maxRecDepth 100000 in
theorem isNode_k36 (u d : Int) (s : ByteArray) (b a : Bool) (hs : (s.size : Int) ≤ 2147483647) (w : World) : Calls Tryz.prog 37 #[nV 36 u d s b a] w (RetBW (isNodeB (rnOf 36 u d s b a)) w) := by
  have HB := nBlk_below 36 u d s b a w
  rw [isNode_str]
  have HX := Lib.hid (plain_x s)
  have hsz : (((⟨#[120]⟩ : ByteArray) ++ s).size : Int) ≤ 140737488355328 := by
    rw [ByteArray.size_append]; show ((1 + s.size : Nat) : Int) ≤ _; omega
  have HSZ := Lib.hid hsz
  have hsum : 1 + s.size ≤ 2147483648 := by omega
  clear hsz hs
  unfold nV
  go_enter Tryz.func37, Tryz.ntmps37
  go_wp2_with fail
  refine (plain_any _ HSZ.out _).mono ?_
  rintro e w' ⟨rfl, rfl⟩
  rw [HX.out]
  go_wp2_with fail
  go_ret
  exact RetBW.mk' rfl HB.out
set_option maxHeartbeats 1600000 in
set_option maxRecDepth 100000 in
theorem isNode_k30 (u d : Int) (s : ByteArray) (b a : Bool) (hs : (s.size : Int) ≤ 2147483647) (w : World) : Calls Tryz.prog 37 #[nV 30 u d s b a] w (RetBW (isNodeB (rnOf 30 u d s b a)) w) := by
  have HS := Lib.hid hs
  have HB := nBlk_below 30 u d s b a w
  rw [isNode_num (by decide)]
  clear hs
  unfold nV
  go_enter Tryz.func37, Tryz.ntmps37
  go_wp2_with fail
  refine (lone_any s HS.out _ _).mono ?_
  rintro e w1 ⟨rfl, hb⟩
  have HB1 := Lib.hid hb
  clear hb
  go_wp2_with fail
  go_ret
  exact RetBW.mk' rfl (below_join HB HB1)
set_option maxHeartbeats 1600000 in
set_option maxRecDepth 100000 in
theorem isNode_k34 (u d : Int) (s : ByteArray) (b a : Bool) (hs : (s.size : Int) ≤ 2147483647) (w : World) : Calls Tryz.prog 37 #[nV 34 u d s b a] w (RetBW (isNodeB (rnOf 34 u d s b a)) w) := by
  have HS := Lib.hid hs
  have HB := nBlk_below 34 u d s b a w
  rw [isNode_num (by decide)]
  clear hs
  unfold nV
  go_enter Tryz.func37, Tryz.ntmps37
  go_wp2_with fail
  refine (lone_any s HS.out _ _).mono ?_
  rintro e w1 ⟨rfl, hb⟩
  have HB1 := Lib.hid hb
  clear hb
  go_wp2_with fail
  go_ret
  exact RetBW.mk' rfl (below_join HB HB1)
theorem bs_text (s : ByteArray) : (s.data.toList == [92]) = (s.toList == [92]) := by rw [Lib.toList_data]
set_option maxHeartbeats 1600000 in
set_option maxRecDepth 100000 in
theorem isNode_k31 (u d : Int) (s : ByteArray) (b a : Bool) (hs : (s.size : Int) ≤ 2147483647) (w : World) : Calls Tryz.prog 37 #[nV 31 u d s b a] w (RetBW (isNodeB (rnOf 31 u d s b a)) w) := by
  have HS := Lib.hid hs
  have HB := nBlk_below 31 u d s b a w
  rw [isNode_sign (by decide), bs_text]
  clear hs
  cases hq : (s.toList == [92])
  · have hq2 : (!(s.toList == [92])) = true := by rw [hq]; rfl
    unfold nV
    go_enter Tryz.func37, Tryz.ntmps37
    go_wp2_with fail
    refine (lone_any s HS.out _ _).mono ?_
    rintro e w1 ⟨rfl, hb⟩
    have HB1 := Lib.hid hb
    clear hb
    go_wp2_with fail
    go_ret
    exact RetBW.mk' (by simp) (below_join HB HB1)
  · have hq2 : (!(s.toList == [92])) = false := by rw [hq]; rfl
    unfold nV
    go_enter Tryz.func37, Tryz.ntmps37
    go_wp2_with fail
    go_ret
    exact RetBW.mk' rfl HB.out
set_option maxHeartbeats 1600000 in
set_option maxRecDepth 100000 in
theorem isNode_k32 (u d : Int) (s : ByteArray) (b a : Bool) (hs : (s.size : Int) ≤ 2147483647) (w : World) : Calls Tryz.prog 37 #[nV 32 u d s b a] w (RetBW (isNodeB (rnOf 32 u d s b a)) w) := by
  have HS := Lib.hid hs
  have HB := nBlk_below 32 u d s b a w
  rw [isNode_sign (by decide), bs_text]
  clear hs
  cases hq : (s.toList == [92])
  · have hq2 : (!(s.toList == [92])) = true := by rw [hq]; rfl
    unfold nV
    go_enter Tryz.func37, Tryz.ntmps37
    go_wp2_with fail
    refine (lone_any s HS.out _ _).mono ?_
    rintro e w1 ⟨rfl, hb⟩
    have HB1 := Lib.hid hb
    clear hb
    go_wp2_with fail
    go_ret
    exact RetBW.mk' (by simp) (below_join HB HB1)
  · have hq2 : (!(s.toList == [92])) = false := by rw [hq]; rfl
    unfold nV
    go_enter Tryz.func37, Tryz.ntmps37
    go_wp2_with fail
    go_ret
    exact RetBW.mk' rfl HB.out
set_option maxHeartbeats 1600000 in
set_option maxRecDepth 100000 in
theorem isNode_k33 (u d : Int) (s : ByteArray) (b a : Bool) (hs : (s.size : Int) ≤ 2147483647) (w : World) : Calls Tryz.prog 37 #[nV 33 u d s b a] w (RetBW (isNodeB (rnOf 33 u d s b a)) w) := by
  have HS := Lib.hid hs
  have HB := nBlk_below 33 u d s b a w
  rw [isNode_sign (by decide), bs_text]
  clear hs
  cases hq : (s.toList == [92])
  · have hq2 : (!(s.toList == [92])) = true := by rw [hq]; rfl
    unfold nV
    go_enter Tryz.func37, Tryz.ntmps37
    go_wp2_with fail
    refine (lone_any s HS.out _ _).mono ?_
    rintro e w1 ⟨rfl, hb⟩
    have HB1 := Lib.hid hb
    clear hb
    go_wp2_with fail
    go_ret
    exact RetBW.mk' (by simp) (below_join HB HB1)
  · have hq2 : (!(s.toList == [92])) = false := by rw [hq]; rfl
    unfold nV
    go_enter Tryz.func37, Tryz.ntmps37
    go_wp2_with fail
    go_ret
    exact RetBW.mk' rfl HB.out
set_option maxHeartbeats 1600000 in
set_option maxRecDepth 100000 in
theorem isNode_k9 (u d : Int) (s : ByteArray) (b a : Bool) (hs : (s.size : Int) ≤ 2147483647) (w : World) : Calls Tryz.prog 37 #[nV 9 u d s b a] w (RetBW (isNodeB (rnOf 9 u d s b a)) w) := by
  have HS := Lib.hid hs
  have HB := nBlk_below 9 u d s b a w
  rw [isNode_sign (by decide), bs_text]
  clear hs
  cases hq : (s.toList == [92])
  · have hq2 : (!(s.toList == [92])) = true := by rw [hq]; rfl
    unfold nV
    go_enter Tryz.func37, Tryz.ntmps37
    go_wp2_with fail
    refine (lone_any s HS.out _ _).mono ?_
    rintro e w1 ⟨rfl, hb⟩
    have HB1 := Lib.hid hb
    clear hb
    go_wp2_with fail
    go_ret
    exact RetBW.mk' (by simp) (below_join HB HB1)
  · have hq2 : (!(s.toList == [92])) = false := by rw [hq]; rfl
    unfold nV
    go_enter Tryz.func37, Tryz.ntmps37
    go_wp2_with fail
    go_ret
    exact RetBW.mk' rfl HB.out
set_option maxHeartbeats 1600000 in
set_option maxRecDepth 100000 in
theorem isNode_k10 (u d : Int) (s : ByteArray) (b a : Bool) (hs : (s.size : Int) ≤ 2147483647) (w : World) : Calls Tryz.prog 37 #[nV 10 u d s b a] w (RetBW (isNodeB (rnOf 10 u d s b a)) w) := by
  have HS := Lib.hid hs
  have HB := nBlk_below 10 u d s b a w
  rw [isNode_sign (by decide), bs_text]
  clear hs
  cases hq : (s.toList == [92])
  · have hq2 : (!(s.toList == [92])) = true := by rw [hq]; rfl
    unfold nV
    go_enter Tryz.func37, Tryz.ntmps37
    go_wp2_with fail
    refine (lone_any s HS.out _ _).mono ?_
    rintro e w1 ⟨rfl, hb⟩
    have HB1 := Lib.hid hb
    clear hb
    go_wp2_with fail
    go_ret
    exact RetBW.mk' (by simp) (below_join HB HB1)
  · have hq2 : (!(s.toList == [92])) = false := by rw [hq]; rfl
    unfold nV
    go_enter Tryz.func37, Tryz.ntmps37
    go_wp2_with fail
    go_ret
    exact RetBW.mk' rfl HB.out
set_option maxHeartbeats 1600000 in
set_option maxRecDepth 100000 in
theorem isNode_k35 (u d : Int) (s : ByteArray) (b a : Bool) (hs : (s.size : Int) ≤ 2147483647) (w : World) : Calls Tryz.prog 37 #[nV 35 u d s b a] w (RetBW (isNodeB (rnOf 35 u d s b a)) w) := by
  have HS := Lib.hid hs
  have HB := nBlk_below 35 u d s b a w
  rw [isNode_sign (by decide), bs_text]
  clear hs
  cases hq : (s.toList == [92])
  · have hq2 : (!(s.toList == [92])) = true := by rw [hq]; rfl
    unfold nV
    go_enter Tryz.func37, Tryz.ntmps37
    go_wp2_with fail
    refine (lone_any s HS.out _ _).mono ?_
    rintro e w1 ⟨rfl, hb⟩
    have HB1 := Lib.hid hb
    clear hb
    go_wp2_with fail
    go_ret
    exact RetBW.mk' (by simp) (below_join HB HB1)
  · have hq2 : (!(s.toList == [92])) = false := by rw [hq]; rfl
    unfold nV
    go_enter Tryz.func37, Tryz.ntmps37
    go_wp2_with fail
    go_ret
    exact RetBW.mk' rfl HB.out
set_option maxHeartbeats 1600000 in
set_option maxRecDepth 100000 in
theorem isNode_k4 (u d : Int) (s : ByteArray) (b a : Bool) (hs : (s.size : Int) ≤ 2147483647) (w : World) : Calls Tryz.prog 37 #[nV 4 u d s b a] w (RetBW (isNodeB (rnOf 4 u d s b a)) w) := by
  have HS := Lib.hid hs
  have HB := nBlk_below 4 u d s b a w
  rw [isNode_sign (by decide), bs_text]
  clear hs
  cases hq : (s.toList == [92])
  · have hq2 : (!(s.toList == [92])) = true := by rw [hq]; rfl
    unfold nV
    go_enter Tryz.func37, Tryz.ntmps37
    go_wp2_with fail
    refine (lone_any s HS.out _ _).mono ?_
    rintro e w1 ⟨rfl, hb⟩
    have HB1 := Lib.hid hb
    clear hb
    go_wp2_with fail
    go_ret
    exact RetBW.mk' (by simp) (below_join HB HB1)
  · have hq2 : (!(s.toList == [92])) = false := by rw [hq]; rfl
    unfold nV
    go_enter Tryz.func37, Tryz.ntmps37
    go_wp2_with fail
    go_ret
    exact RetBW.mk' rfl HB.out
set_option maxHeartbeats 1600000 in
set_option maxRecDepth 100000 in
theorem isNode_k5 (u d : Int) (s : ByteArray) (b a : Bool) (hs : (s.size : Int) ≤ 2147483647) (w : World) : Calls Tryz.prog 37 #[nV 5 u d s b a] w (RetBW (isNodeB (rnOf 5 u d s b a)) w) := by
  have HS := Lib.hid hs
  have HB := nBlk_below 5 u d s b a w
  rw [isNode_sign (by decide), bs_text]
  clear hs
  cases hq : (s.toList == [92])
  · have hq2 : (!(s.toList == [92])) = true := by rw [hq]; rfl
    unfold nV
    go_enter Tryz.func37, Tryz.ntmps37
    go_wp2_with fail
    refine (lone_any s HS.out _ _).mono ?_
    rintro e w1 ⟨rfl, hb⟩
    have HB1 := Lib.hid hb
    clear hb
    go_wp2_with fail
    go_ret
    exact RetBW.mk' (by simp) (below_join HB HB1)
  · have hq2 : (!(s.toList == [92])) = false := by rw [hq]; rfl
    unfold nV
    go_enter Tryz.func37, Tryz.ntmps37
    go_wp2_with fail
    go_ret
    exact RetBW.mk' rfl HB.out
set_option maxHeartbeats 1600000 in
set_option maxRecDepth 100000 in
theorem isNode_k11 (u d : Int) (s : ByteArray) (b a : Bool) (hs : (s.size : Int) ≤ 2147483647) (w : World) : Calls Tryz.prog 37 #[nV 11 u d s b a] w (RetBW (isNodeB (rnOf 11 u d s b a)) w) := by
  have HS := Lib.hid hs
  have HB := nBlk_below 11 u d s b a w
  rw [isNode_sign (by decide), bs_text]
  clear hs
  cases hq : (s.toList == [92])
  · have hq2 : (!(s.toList == [92])) = true := by rw [hq]; rfl
    unfold nV
    go_enter Tryz.func37, Tryz.ntmps37
    go_wp2_with fail
    refine (lone_any s HS.out _ _).mono ?_
    rintro e w1 ⟨rfl, hb⟩
    have HB1 := Lib.hid hb
    clear hb
    go_wp2_with fail
    go_ret
    exact RetBW.mk' (by simp) (below_join HB HB1)
  · have hq2 : (!(s.toList == [92])) = false := by rw [hq]; rfl
    unfold nV
    go_enter Tryz.func37, Tryz.ntmps37
    go_wp2_with fail
    go_ret
    exact RetBW.mk' rfl HB.out
set_option maxHeartbeats 1600000 in
set_option maxRecDepth 100000 in
theorem isNode_k12 (u d : Int) (s : ByteArray) (b a : Bool) (hs : (s.size : Int) ≤ 2147483647) (w : World) : Calls Tryz.prog 37 #[nV 12 u d s b a] w (RetBW (isNodeB (rnOf 12 u d s b a)) w) := by
  have HS := Lib.hid hs
  have HB := nBlk_below 12 u d s b a w
  rw [isNode_sign (by decide), bs_text]
  clear hs
  cases hq : (s.toList == [92])
  · have hq2 : (!(s.toList == [92])) = true := by rw [hq]; rfl
    unfold nV
    go_enter Tryz.func37, Tryz.ntmps37
    go_wp2_with fail
    refine (lone_any s HS.out _ _).mono ?_
    rintro e w1 ⟨rfl, hb⟩
    have HB1 := Lib.hid hb
    clear hb
    go_wp2_with fail
    go_ret
    exact RetBW.mk' (by simp) (below_join HB HB1)
  · have hq2 : (!(s.toList == [92])) = false := by rw [hq]; rfl
    unfold nV
    go_enter Tryz.func37, Tryz.ntmps37
    go_wp2_with fail
    go_ret
    exact RetBW.mk' rfl HB.out
set_option maxHeartbeats 1600000 in
set_option maxRecDepth 100000 in
theorem isNode_k13 (u d : Int) (s : ByteArray) (b a : Bool) (hs : (s.size : Int) ≤ 2147483647) (w : World) : Calls Tryz.prog 37 #[nV 13 u d s b a] w (RetBW (isNodeB (rnOf 13 u d s b a)) w) := by
  have HS := Lib.hid hs
  have HB := nBlk_below 13 u d s b a w
  rw [isNode_sign (by decide), bs_text]
  clear hs
  cases hq : (s.toList == [92])
  · have hq2 : (!(s.toList == [92])) = true := by rw [hq]; rfl
    unfold nV
    go_enter Tryz.func37, Tryz.ntmps37
    go_wp2_with fail
    refine (lone_any s HS.out _ _).mono ?_
    rintro e w1 ⟨rfl, hb⟩
    have HB1 := Lib.hid hb
    clear hb
    go_wp2_with fail
    go_ret
    exact RetBW.mk' (by simp) (below_join HB HB1)
  · have hq2 : (!(s.toList == [92])) = false := by rw [hq]; rfl
    unfold nV
    go_enter Tryz.func37, Tryz.ntmps37
    go_wp2_with fail
    go_ret
    exact RetBW.mk' rfl HB.out
set_option maxHeartbeats 1600000 in
set_option maxRecDepth 100000 in
theorem isNode_k14 (u d : Int) (s : ByteArray) (b a : Bool) (hs : (s.size : Int) ≤ 2147483647) (w : World) : Calls Tryz.prog 37 #[nV 14 u d s b a] w (RetBW (isNodeB (rnOf 14 u d s b a)) w) := by
  have HS := Lib.hid hs
  have HB := nBlk_below 14 u d s b a w
  rw [isNode_sign (by decide), bs_text]
  clear hs
  cases hq : (s.toList == [92])
  · have hq2 : (!(s.toList == [92])) = true := by rw [hq]; rfl
    unfold nV
    go_enter Tryz.func37, Tryz.ntmps37
    go_wp2_with fail
    refine (lone_any s HS.out _ _).mono ?_
    rintro e w1 ⟨rfl, hb⟩
    have HB1 := Lib.hid hb
    clear hb
    go_wp2_with fail
    go_ret
    exact RetBW.mk' (by simp) (below_join HB HB1)
  · have hq2 : (!(s.toList == [92])) = false := by rw [hq]; rfl
    unfold nV
    go_enter Tryz.func37, Tryz.ntmps37
    go_wp2_with fail
    go_ret
    exact RetBW.mk' rfl HB.out
set_option maxHeartbeats 1600000 in
set_option maxRecDepth 100000 in
theorem isNode_k15 (u d : Int) (s : ByteArray) (b a : Bool) (hs : (s.size : Int) ≤ 2147483647) (w : World) : Calls Tryz.prog 37 #[nV 15 u d s b a] w (RetBW (isNodeB (rnOf 15 u d s b a)) w) := by
  have HS := Lib.hid hs
  have HB := nBlk_below 15 u d s b a w
  rw [isNode_sign (by decide), bs_text]
  clear hs
  cases hq : (s.toList == [92])
  · have hq2 : (!(s.toList == [92])) = true := by rw [hq]; rfl
    unfold nV
    go_enter Tryz.func37, Tryz.ntmps37
    go_wp2_with fail
    refine (lone_any s HS.out _ _).mono ?_
    rintro e w1 ⟨rfl, hb⟩
    have HB1 := Lib.hid hb
    clear hb
    go_wp2_with fail
    go_ret
    exact RetBW.mk' (by simp) (below_join HB HB1)
  · have hq2 : (!(s.toList == [92])) = false := by rw [hq]; rfl
    unfold nV
    go_enter Tryz.func37, Tryz.ntmps37
    go_wp2_with fail
    go_ret
    exact RetBW.mk' rfl HB.out
set_option maxHeartbeats 1600000 in
set_option maxRecDepth 100000 in
theorem isNode_k16 (u d : Int) (s : ByteArray) (b a : Bool) (hs : (s.size : Int) ≤ 2147483647) (w : World) : Calls Tryz.prog 37 #[nV 16 u d s b a] w (RetBW (isNodeB (rnOf 16 u d s b a)) w) := by
  have HS := Lib.hid hs
  have HB := nBlk_below 16 u d s b a w
  rw [isNode_sign (by decide), bs_text]
  clear hs
  cases hq : (s.toList == [92])
  · have hq2 : (!(s.toList == [92])) = true := by rw [hq]; rfl
    unfold nV
    go_enter Tryz.func37, Tryz.ntmps37
    go_wp2_with fail
    refine (lone_any s HS.out _ _).mono ?_
    rintro e w1 ⟨rfl, hb⟩
    have HB1 := Lib.hid hb
    clear hb
    go_wp2_with fail
    go_ret
    exact RetBW.mk' (by simp) (below_join HB HB1)
  · have hq2 : (!(s.toList == [92])) = false := by rw [hq]; rfl
    unfold nV
    go_enter Tryz.func37, Tryz.ntmps37
    go_wp2_with fail
    go_ret
    exact RetBW.mk' rfl HB.out
set_option maxHeartbeats 1600000 in
set_option maxRecDepth 100000 in
theorem isNode_k17 (u d : Int) (s : ByteArray) (b a : Bool) (hs : (s.size : Int) ≤ 2147483647) (w : World) : Calls Tryz.prog 37 #[nV 17 u d s b a] w (RetBW (isNodeB (rnOf 17 u d s b a)) w) := by
  have HS := Lib.hid hs
  have HB := nBlk_below 17 u d s b a w
  rw [isNode_sign (by decide), bs_text]
  clear hs
  cases hq : (s.toList == [92])
  · have hq2 : (!(s.toList == [92])) = true := by rw [hq]; rfl
    unfold nV
    go_enter Tryz.func37, Tryz.ntmps37
    go_wp2_with fail
    refine (lone_any s HS.out _ _).mono ?_
    rintro e w1 ⟨rfl, hb⟩
    have HB1 := Lib.hid hb
    clear hb
    go_wp2_with fail
    go_ret
    exact RetBW.mk' (by simp) (below_join HB HB1)
  · have hq2 : (!(s.toList == [92])) = false := by rw [hq]; rfl
    unfold nV
    go_enter Tryz.func37, Tryz.ntmps37
    go_wp2_with fail
    go_ret
    exact RetBW.mk' rfl HB.out
set_option maxHeartbeats 1600000 in
set_option maxRecDepth 100000 in
theorem isNode_k18 (u d : Int) (s : ByteArray) (b a : Bool) (hs : (s.size : Int) ≤ 2147483647) (w : World) : Calls Tryz.prog 37 #[nV 18 u d s b a] w (RetBW (isNodeB (rnOf 18 u d s b a)) w) := by
  have HS := Lib.hid hs
  have HB := nBlk_below 18 u d s b a w
  rw [isNode_sign (by decide), bs_text]
  clear hs
  cases hq : (s.toList == [92])
  · have hq2 : (!(s.toList == [92])) = true := by rw [hq]; rfl
    unfold nV
    go_enter Tryz.func37, Tryz.ntmps37
    go_wp2_with fail
    refine (lone_any s HS.out _ _).mono ?_
    rintro e w1 ⟨rfl, hb⟩
    have HB1 := Lib.hid hb
    clear hb
    go_wp2_with fail
    go_ret
    exact RetBW.mk' (by simp) (below_join HB HB1)
  · have hq2 : (!(s.toList == [92])) = false := by rw [hq]; rfl
    unfold nV
    go_enter Tryz.func37, Tryz.ntmps37
    go_wp2_with fail
    go_ret
    exact RetBW.mk' rfl HB.out
set_option maxHeartbeats 1600000 in
set_option maxRecDepth 100000 in
theorem isNode_k19 (u d : Int) (s : ByteArray) (b a : Bool) (hs : (s.size : Int) ≤ 2147483647) (w : World) : Calls Tryz.prog 37 #[nV 19 u d s b a] w (RetBW (isNodeB (rnOf 19 u d s b a)) w) := by
  have HS := Lib.hid hs
  have HB := nBlk_below 19 u d s b a w
  rw [isNode_sign (by decide), bs_text]
  clear hs
  cases hq : (s.toList == [92])
  · have hq2 : (!(s.toList == [92])) = true := by rw [hq]; rfl
    unfold nV
    go_enter Tryz.func37, Tryz.ntmps37
    go_wp2_with fail
    refine (lone_any s HS.out _ _).mono ?_
    rintro e w1 ⟨rfl, hb⟩
    have HB1 := Lib.hid hb
    clear hb
    go_wp2_with fail
    go_ret
    exact RetBW.mk' (by simp) (below_join HB HB1)
  · have hq2 : (!(s.toList == [92])) = false := by rw [hq]; rfl
    unfold nV
    go_enter Tryz.func37, Tryz.ntmps37
    go_wp2_with fail
    go_ret
    exact RetBW.mk' rfl HB.out
set_option maxHeartbeats 1600000 in
set_option maxRecDepth 100000 in
theorem isNode_k20 (u d : Int) (s : ByteArray) (b a : Bool) (hs : (s.size : Int) ≤ 2147483647) (w : World) : Calls Tryz.prog 37 #[nV 20 u d s b a] w (RetBW (isNodeB (rnOf 20 u d s b a)) w) := by
  have HS := Lib.hid hs
  have HB := nBlk_below 20 u d s b a w
  rw [isNode_sign (by decide), bs_text]
  clear hs
  cases hq : (s.toList == [92])
  · have hq2 : (!(s.toList == [92])) = true := by rw [hq]; rfl
    unfold nV
    go_enter Tryz.func37, Tryz.ntmps37
    go_wp2_with fail
    refine (lone_any s HS.out _ _).mono ?_
    rintro e w1 ⟨rfl, hb⟩
    have HB1 := Lib.hid hb
    clear hb
    go_wp2_with fail
    go_ret
    exact RetBW.mk' (by simp) (below_join HB HB1)
  · have hq2 : (!(s.toList == [92])) = false := by rw [hq]; rfl
    unfold nV
    go_enter Tryz.func37, Tryz.ntmps37
    go_wp2_with fail
    go_ret
    exact RetBW.mk' rfl HB.out
set_option maxHeartbeats 1600000 in
set_option maxRecDepth 100000 in
theorem isNode_k21 (u d : Int) (s : ByteArray) (b a : Bool) (hs : (s.size : Int) ≤ 2147483647) (w : World) : Calls Tryz.prog 37 #[nV 21 u d s b a] w (RetBW (isNodeB (rnOf 21 u d s b a)) w) := by
  have HS := Lib.hid hs
  have HB := nBlk_below 21 u d s b a w
  rw [isNode_sign (by decide), bs_text]
  clear hs
  cases hq : (s.toList == [92])
  · have hq2 : (!(s.toList == [92])) = true := by rw [hq]; rfl
    unfold nV
    go_enter Tryz.func37, Tryz.ntmps37
    go_wp2_with fail
    refine (lone_any s HS.out _ _).mono ?_
    rintro e w1 ⟨rfl, hb⟩
    have HB1 := Lib.hid hb
    clear hb
    go_wp2_with fail
    go_ret
    exact RetBW.mk' (by simp) (below_join HB HB1)
  · have hq2 : (!(s.toList == [92])) = false := by rw [hq]; rfl
    unfold nV
    go_enter Tryz.func37, Tryz.ntmps37
    go_wp2_with fail
    go_ret
    exact RetBW.mk' rfl HB.out
set_option maxHeartbeats 1600000 in
set_option maxRecDepth 100000 in
theorem isNode_k22 (u d : Int) (s : ByteArray) (b a : Bool) (hs : (s.size : Int) ≤ 2147483647) (w : World) : Calls Tryz.prog 37 #[nV 22 u d s b a] w (RetBW (isNodeB (rnOf 22 u d s b a)) w) := by
  have HS := Lib.hid hs
  have HB := nBlk_below 22 u d s b a w
  rw [isNode_sign (by decide), bs_text]
  clear hs
  cases hq : (s.toList == [92])
  · have hq2 : (!(s.toList == [92])) = true := by rw [hq]; rfl
    unfold nV
    go_enter Tryz.func37, Tryz.ntmps37
    go_wp2_with fail
    refine (lone_any s HS.out _ _).mono ?_
    rintro e w1 ⟨rfl, hb⟩
    have HB1 := Lib.hid hb
    clear hb
    go_wp2_with fail
    go_ret
    exact RetBW.mk' (by simp) (below_join HB HB1)
  · have hq2 : (!(s.toList == [92])) = false := by rw [hq]; rfl
    unfold nV
    go_enter Tryz.func37, Tryz.ntmps37
    go_wp2_with fail
    go_ret
    exact RetBW.mk' rfl HB.out
set_option maxHeartbeats 1600000 in
set_option maxRecDepth 100000 in
theorem isNode_k23 (u d : Int) (s : ByteArray) (b a : Bool) (hs : (s.size : Int) ≤ 2147483647) (w : World) : Calls Tryz.prog 37 #[nV 23 u d s b a] w (RetBW (isNodeB (rnOf 23 u d s b a)) w) := by
  have HS := Lib.hid hs
  have HB := nBlk_below 23 u d s b a w
  rw [isNode_sign (by decide), bs_text]
  clear hs
  cases hq : (s.toList == [92])
  · have hq2 : (!(s.toList == [92])) = true := by rw [hq]; rfl
    unfold nV
    go_enter Tryz.func37, Tryz.ntmps37
    go_wp2_with fail
    refine (lone_any s HS.out _ _).mono ?_
    rintro e w1 ⟨rfl, hb⟩
    have HB1 := Lib.hid hb
    clear hb
    go_wp2_with fail
    go_ret
    exact RetBW.mk' (by simp) (below_join HB HB1)
  · have hq2 : (!(s.toList == [92])) = false := by rw [hq]; rfl
    unfold nV
    go_enter Tryz.func37, Tryz.ntmps37
    go_wp2_with fail
    go_ret
    exact RetBW.mk' rfl HB.out
set_option maxHeartbeats 1600000 in
set_option maxRecDepth 100000 in
theorem isNode_k24 (u d : Int) (s : ByteArray) (b a : Bool) (hs : (s.size : Int) ≤ 2147483647) (w : World) : Calls Tryz.prog 37 #[nV 24 u d s b a] w (RetBW (isNodeB (rnOf 24 u d s b a)) w) := by
  have HS := Lib.hid hs
  have HB := nBlk_below 24 u d s b a w
  rw [isNode_sign (by decide), bs_text]
  clear hs
  cases hq : (s.toList == [92])
  · have hq2 : (!(s.toList == [92])) = true := by rw [hq]; rfl
    unfold nV
    go_enter Tryz.func37, Tryz.ntmps37
    go_wp2_with fail
    refine (lone_any s HS.out _ _).mono ?_
    rintro e w1 ⟨rfl, hb⟩
    have HB1 := Lib.hid hb
    clear hb
    go_wp2_with fail
    go_ret
    exact RetBW.mk' (by simp) (below_join HB HB1)
  · have hq2 : (!(s.toList == [92])) = false := by rw [hq]; rfl
    unfold nV
    go_enter Tryz.func37, Tryz.ntmps37
    go_wp2_with fail
    go_ret
    exact RetBW.mk' rfl HB.out
set_option maxHeartbeats 1600000 in
set_option maxRecDepth 100000 in
theorem isNode_k25 (u d : Int) (s : ByteArray) (b a : Bool) (hs : (s.size : Int) ≤ 2147483647) (w : World) : Calls Tryz.prog 37 #[nV 25 u d s b a] w (RetBW (isNodeB (rnOf 25 u d s b a)) w) := by
  have HS := Lib.hid hs
  have HB := nBlk_below 25 u d s b a w
  rw [isNode_sign (by decide), bs_text]
  clear hs
  cases hq : (s.toList == [92])
  · have hq2 : (!(s.toList == [92])) = true := by rw [hq]; rfl
    unfold nV
    go_enter Tryz.func37, Tryz.ntmps37
    go_wp2_with fail
    refine (lone_any s HS.out _ _).mono ?_
    rintro e w1 ⟨rfl, hb⟩
    have HB1 := Lib.hid hb
    clear hb
    go_wp2_with fail
    go_ret
    exact RetBW.mk' (by simp) (below_join HB HB1)
  · have hq2 : (!(s.toList == [92])) = false := by rw [hq]; rfl
    unfold nV
    go_enter Tryz.func37, Tryz.ntmps37
    go_wp2_with fail
    go_ret
    exact RetBW.mk' rfl HB.out
theorem isNode_none {k u d : Int} {s : ByteArray} {b a : Bool} (h1 : ¬ nameKind k) (h2 : k ≠ 27) (h3 : k ≠ 36) (h4 : k ≠ 30) (h5 : k ≠ 34) (h6 : k ≠ 26) (h7 : ¬ signLike k) : isNodeB (rnOf k u d s b a) = false := by
  unfold isNodeB rnOf
  rw [if_neg h1, if_neg h2, if_neg h3, if_neg (by show ¬ (k = 30 ∨ k = 34); omega), if_neg h6, if_neg h7]
set_option maxHeartbeats 1600000 in
set_option maxRecDepth 100000 in
theorem isNode_other (k u d : Int) (s : ByteArray) (b a : Bool) (w : World) (h1 : ¬ nameKind k) (h2 : k ≠ 27) (h3 : k ≠ 36) (h4 : k ≠ 30) (h5 : k ≠ 34) (h6 : k ≠ 26) (h7 : ¬ signLike k) : Calls Tryz.prog 37 #[nV k u d s b a] w (RetBW (isNodeB (rnOf k u d s b a)) w) := by
  have HB := nBlk_below k u d s b a w
  rw [isNode_none h1 h2 h3 h4 h5 h6 h7]
  unfold nameKind at h1
  unfold signLike at h7
  have e29 : (k == 29) = false := by simp; omega
  have e28 : (k == 28) = false := by simp; omega
  have e1 : (k == 1) = false := by simp; omega
  have e27 : (k == 27) = false := by simp; omega
  have e36 : (k == 36) = false := by simp; omega
  have e30 : (k == 30) = false := by simp; omega
  have e34 : (k == 34) = false := by simp; omega
  have e26 : (k == 26) = false := by simp; omega
  have e31 : (k == 31) = false := by simp; omega
  have e32 : (k == 32) = false := by simp; omega
  have e33 : (k == 33) = false := by simp; omega
  have e9 : (k == 9) = false := by simp; omega
  have e10 : (k == 10) = false := by simp; omega
  have e35 : (k == 35) = false := by simp; omega
  have e4 : (k == 4) = false := by simp; omega
  have e5 : (k == 5) = false := by simp; omega
  have e11 : (k == 11) = false := by simp; omega
  have e12 : (k == 12) = false := by simp; omega
  have e13 : (k == 13) = false := by simp; omega
  have e14 : (k == 14) = false := by simp; omega
  have e15 : (k == 15) = false := by simp; omega
  have e16 : (k == 16) = false := by simp; omega
  have e17 : (k == 17) = false := by simp; omega
  have e18 : (k == 18) = false := by simp; omega
  have e19 : (k == 19) = false := by simp; omega
  have e20 : (k == 20) = false := by simp; omega
  have e21 : (k == 21) = false := by simp; omega
  have e22 : (k == 22) = false := by simp; omega
  have e23 : (k == 23) = false := by simp; omega
  have e24 : (k == 24) = false := by simp; omega
  have e25 : (k == 25) = false := by simp; omega
  clear h1 h2 h3 h4 h5 h6 h7
  unfold nV
  go_enter Tryz.func37, Tryz.ntmps37
  go_wp2
  go_ret
  exact RetBW.mk' rfl HB.out
theorem take_extract (s : ByteArray) (n : Nat) : (s.extract 0 n).data.toList = s.data.toList.take n := by
  rw [ByteArray.data_extract, Array.toList_extract]; simp [List.extract]
theorem drop_extract (s : ByteArray) (n : Nat) : (s.extract n s.size).data.toList = s.data.toList.drop n := by
  rw [ByteArray.data_extract, Array.toList_extract]
  have : s.size = s.data.toList.length := rfl
  simp only [List.extract]
  apply List.take_of_length_le
  rw [List.length_drop]; omega
theorem isNode_dim {u d : Int} {s : ByteArray} {b a : Bool} : isNodeB (rnOf 26 u d s b a) = (decide (0 < u) && decide (u < (s.size : Int)) && decide (u < 60000) && loneB (s.extract 0 u.toNat).data.toList 30 && isNameB (s.extract u.toNat s.size).data.toList) := by
  unfold isNodeB rnOf
  rw [if_neg (by simp [nameKind]), if_neg (by simp), if_neg (by simp), if_neg (by simp), if_pos rfl, take_extract, drop_extract]
  rfl
set_option maxHeartbeats 1600000 in
set_option maxRecDepth 100000 in
theorem isNode_k26 (u d : Int) (s : ByteArray) (b a : Bool) (hs : (s.size : Int) ≤ 2147483647) (w : World) : Calls Tryz.prog 37 #[nV 26 u d s b a] w (RetBW (isNodeB (rnOf 26 u d s b a)) w) := by
  have HS := Lib.hid hs
  have HB := nBlk_below 26 u d s b a w
  rw [isNode_dim]
  by_cases h0 : 0 < u
  · by_cases h1 : u < (s.size : Int)
    · by_cases h2 : u < 60000
      · obtain ⟨n, hn⟩ : ∃ n : Nat, u.toNat = n := ⟨u.toNat, rfl⟩
        have HE1 : Hid (((s.extract 0 n).size : Int) ≤ 2147483647) := by
          show _ ≤ _; rw [ByteArray.size_extract]; omega
        have HE2 : Hid (((s.extract n s.size).size : Int) ≤ 2147483647) := by
          show _ ≤ _; rw [ByteArray.size_extract]; omega
        have e1 : decide (0 < u) = true := by simpa using h0
        have e2 : decide (u < (s.size : Int)) = true := by simpa using h1
        have e3 : decide (u < 60000) = true := by simpa using h2
        rw [e1, e2, e3, hn]
        have h3 : u ≤ 59999 := by omega
        have h4 : 0 ≤ u := by omega
        have h5 : u ≤ (s.size : Int) := by omega
        clear e1 e2 e3 hs h2
        have hn1 : n ≤ s.size := by omega
        generalize hL : loneB (s.extract 0 n).data.toList 30 = L
        generalize hN : isNameB (s.extract n s.size).data.toList = N
        have HL := Lib.hid hL
        have HN := Lib.hid hN
        clear hL hN
        unfold nV
        go_enter Tryz.func37, Tryz.ntmps37
        go_wp2_with fail
        refine (lone_any _ HE1.out _ _).mono ?_
        rintro e w1 ⟨rfl, hb⟩
        rw [HL.out]
        have HB1 := Lib.hid hb
        cases L
        · clear hb
          go_wp2_with fail
          go_ret
          exact RetBW.mk' rfl (below_join HB HB1)
        · have hc : w1.cell? ⟨w.heap.size, 3, none⟩ = some (.string s) := cell_blk (node_kept hb) 3
          have hc2 : w1.cell? ⟨w.heap.size, 1, none⟩ = some (.int .i64 u) := cell_blk (node_kept hb) 1
          clear hb
          go_wp2_with fail
          refine (isName_any _ HE2.out _).mono ?_
          rintro e w' ⟨rfl, rfl⟩
          rw [HN.out]
          go_wp2_with fail
          go_ret
          exact RetBW.mk' (by simp) (below_join HB HB1)
      · have e1 : decide (0 < u) = true := by simpa using h0
        have e2 : decide (u < (s.size : Int)) = true := by simpa using h1
        have e3 : decide (u < 60000) = false := by simpa using h2
        rw [e1, e2, e3]
        clear e1 e2 e3 hs
        unfold nV
        go_enter Tryz.func37, Tryz.ntmps37
        go_wp2_with fail
        go_ret
        exact RetBW.mk' rfl HB.out
    · have e1 : decide (0 < u) = true := by simpa using h0
      have e2 : decide (u < (s.size : Int)) = false := by simpa using h1
      rw [e1, e2]
      clear e1 e2 hs
      unfold nV
      go_enter Tryz.func37, Tryz.ntmps37
      go_wp2_with fail
      go_ret
      exact RetBW.mk' rfl HB.out
  · have e1 : decide (0 < u) = false := by simpa using h0
    rw [e1]
    clear e1 hs
    unfold nV
    go_enter Tryz.func37, Tryz.ntmps37
    go_wp2_with fail
    go_ret
    exact RetBW.mk' rfl HB.out
theorem isNode_any (k u d : Int) (s : ByteArray) (b a : Bool) (hs : (s.size : Int) ≤ 2147483647) (w : World) : Calls Tryz.prog 37 #[nV k u d s b a] w (RetBW (isNodeB (rnOf k u d s b a)) w) := by
  by_cases e29 : k = 29
  · subst e29; exact isNode_k29 u d s b a hs w
  by_cases e28 : k = 28
  · subst e28; exact isNode_k28 u d s b a hs w
  by_cases e1 : k = 1
  · subst e1; exact isNode_k1 u d s b a hs w
  by_cases e27 : k = 27
  · subst e27; exact isNode_k27 u d s b a hs w
  by_cases e36 : k = 36
  · subst e36; exact isNode_k36 u d s b a hs w
  by_cases e30 : k = 30
  · subst e30; exact isNode_k30 u d s b a hs w
  by_cases e34 : k = 34
  · subst e34; exact isNode_k34 u d s b a hs w
  by_cases e26 : k = 26
  · subst e26; exact isNode_k26 u d s b a hs w
  by_cases e31 : k = 31
  · subst e31; exact isNode_k31 u d s b a hs w
  by_cases e32 : k = 32
  · subst e32; exact isNode_k32 u d s b a hs w
  by_cases e33 : k = 33
  · subst e33; exact isNode_k33 u d s b a hs w
  by_cases e9 : k = 9
  · subst e9; exact isNode_k9 u d s b a hs w
  by_cases e10 : k = 10
  · subst e10; exact isNode_k10 u d s b a hs w
  by_cases e35 : k = 35
  · subst e35; exact isNode_k35 u d s b a hs w
  by_cases e4 : k = 4
  · subst e4; exact isNode_k4 u d s b a hs w
  by_cases e5 : k = 5
  · subst e5; exact isNode_k5 u d s b a hs w
  by_cases e11 : k = 11
  · subst e11; exact isNode_k11 u d s b a hs w
  by_cases e12 : k = 12
  · subst e12; exact isNode_k12 u d s b a hs w
  by_cases e13 : k = 13
  · subst e13; exact isNode_k13 u d s b a hs w
  by_cases e14 : k = 14
  · subst e14; exact isNode_k14 u d s b a hs w
  by_cases e15 : k = 15
  · subst e15; exact isNode_k15 u d s b a hs w
  by_cases e16 : k = 16
  · subst e16; exact isNode_k16 u d s b a hs w
  by_cases e17 : k = 17
  · subst e17; exact isNode_k17 u d s b a hs w
  by_cases e18 : k = 18
  · subst e18; exact isNode_k18 u d s b a hs w
  by_cases e19 : k = 19
  · subst e19; exact isNode_k19 u d s b a hs w
  by_cases e20 : k = 20
  · subst e20; exact isNode_k20 u d s b a hs w
  by_cases e21 : k = 21
  · subst e21; exact isNode_k21 u d s b a hs w
  by_cases e22 : k = 22
  · subst e22; exact isNode_k22 u d s b a hs w
  by_cases e23 : k = 23
  · subst e23; exact isNode_k23 u d s b a hs w
  by_cases e24 : k = 24
  · subst e24; exact isNode_k24 u d s b a hs w
  by_cases e25 : k = 25
  · subst e25; exact isNode_k25 u d s b a hs w
  exact isNode_other k u d s b a w (by unfold nameKind; omega) e27 e36 e30 e34 e26 (by unfold signLike; omega)
end Go.Proofs.YtkfdcbdlcipmfaaGreatFmt
namespace Go.Proofs.YtkfdcbdlcipmfaaGreatFmt
open Go.RowKit Css
theorem isNode_rn (n : RN) (hs : n.text.length ≤ 2147483647) (w : World) : Calls Tryz.prog 37 #[rV n] w (RetBW (isNodeB n) w) := by
  have := isNode_any n.kind n.unit n.depth ⟨⟨n.text⟩⟩ n.before n.after (by show (n.text.length : Int) ≤ _; omega) w
  exact this
set_option maxHeartbeats 3200000 in
set_option maxRecDepth 100000 in
theorem isTree_any (v : Value) (l : List RN) (hl : l.length ≤ 1000) (ht : ∀ n ∈ l, n.text.length ≤ 2147483647) (w : World) (h : NodesAt v l w) : Calls Tryz.prog 25 #[v] w (RetBW (treeGo 0 l) w) := by
  obtain ⟨A, c, rfl⟩ := h.slice
  have HN := Lib.hid h
  have HM := Lib.hid ht
  rename World => w0
  clear h ht
  go_enter Tryz.func25, Tryz.ntmps25
  go_wp2_with fail
  go_loopg [3, 10] l.length (fun k p3 p10 wr => ∃ (i : Nat) (m : Int), p10 = .int .i64 i ∧ i + k = l.length ∧ p3 = .int .i64 m ∧ 0 ≤ m ∧ m ≤ (i : Int) ∧ Hid (Below w0.heap.size w0 wr) ∧ Hid (treeGo 0 l = treeGo m (l.drop i)))
  case atStart => exact ⟨0, 0, rfl, by omega, rfl, by omega, by omega, Below.refl _ _, rfl⟩
  case round =>
    obtain ⟨i, m, rfl, hik, rfl, hm0, hmi, HB, HQ⟩ := hrel
    have hi0 : (0 : Int) ≤ (i : Int) := by omega
    have hi1 : (i : Int) ≤ 1000 := by omega
    by_cases hlt : i < l.length
    · have hlti : (i : Int) < (l.length : Int) := by omega
      obtain ⟨n, hn⟩ : ∃ n, l[i]? = some n := ⟨l[i], List.getElem?_eq_getElem hlt⟩
      have HQ2 : Hid (treeGo 0 l = (!decide (n.depth < 0) && !decide (m < n.depth) && isNodeB n && treeGo (if opens n.kind then n.depth + 1 else n.depth) (l.drop (i + 1)))) := by
        show _ = _; rw [HQ.out]
        have : l.drop i = n :: l.drop (i + 1) := by
          obtain ⟨h1, e⟩ := List.getElem?_eq_some_iff.1 hn
          rw [← e]; exact List.drop_eq_getElem_cons h1
        rw [this]; rfl
      have HMN : Hid (n.text.length ≤ 2147483647) := HM.out n (List.mem_of_getElem? hn)
      obtain ⟨q, rfl, hq, hc⟩ := (HN.out.below HB.out).node hn
      have hc0 := hc.c0
      have hc1 := hc.c1
      have hc2 := hc.c2
      have hc3 := hc.c3
      have hc4 := hc.c4
      have hc5 := hc.c5
      have HB1 := Lib.hid (HB.out.alloc HB.out.size (nBlk n.kind n.unit n.depth ⟨⟨n.text⟩⟩ n.before n.after))
      clear hc hn HQ
      by_cases hd1 : n.depth < 0
      · have HF : Hid (treeGo 0 l = false) := by show _ = _; rw [HQ2.out]; simp [hd1]
        go_wp2_with fail
        go_ret
        exact RetBW.mk' HF.out.symm HB1.out
      · have hd1' : 0 ≤ n.depth := by omega
        by_cases hd2 : m < n.depth
        · have HF : Hid (treeGo 0 l = false) := by show _ = _; rw [HQ2.out]; simp [hd2]
          go_wp2_with fail
          go_ret
          exact RetBW.mk' HF.out.symm HB1.out
        · have hd2' : n.depth ≤ m := by omega
          have hd3 : n.depth ≤ 1000 := by omega
          cases hnb : isNodeB n
          · have HNB := Lib.hid hnb
            have HF : Hid (treeGo 0 l = false) := by show _ = _; rw [HQ2.out, HNB.out]; simp
            clear hnb
            go_wp2_with (go_at_call 37; go_must (refine (isNode_rn n HMN.out _).mono ?_; rintro e w1 ⟨rfl, hb1⟩; have HB2 := Lib.hid hb1; clear hb1; rw [HNB.out]))
            go_ret
            exact RetBW.mk' HF.out.symm (below_box HB.out HB2.out)
          · have HNB := Lib.hid hnb
            clear hnb
            cases ho : openQ n.kind
            · have HO := Lib.hid ho
              have HF : Hid (treeGo 0 l = treeGo n.depth (l.drop (i + 1))) := by
                show _ = _; rw [HQ2.out, HNB.out, if_neg (by simpa [openQ] using HO.out)]; simp [hd1', hd2']
              clear ho HQ2
              go_wp2_with (first | (go_at_call 37; go_must (refine (isNode_rn n HMN.out _).mono ?_; rintro e w1 ⟨rfl, hb1⟩; have HB2 := Lib.hid hb1; have b0 := cell_blk (node_kept hb1) 0; have b2 := cell_blk (node_kept hb1) 2; clear hb1; rw [HNB.out])) | (go_at_call 30; go_must (refine (opens_any _ _).mono ?_; rintro e w' ⟨rfl, rfl⟩; rw [HO.out])))
              go_roundg (l.length - (i + 1))
              case measure => omega
              case rel => exact ⟨i + 1, n.depth, by go_num, by omega, rfl, by omega, by omega, below_box HB.out HB2.out, HF.out⟩
            · have HO := Lib.hid ho
              have HF : Hid (treeGo 0 l = treeGo (n.depth + 1) (l.drop (i + 1))) := by
                show _ = _; rw [HQ2.out, HNB.out, if_pos (by simpa [openQ] using HO.out)]; simp [hd1', hd2']
              clear ho HQ2
              go_wp2_with (first | (go_at_call 37; go_must (refine (isNode_rn n HMN.out _).mono ?_; rintro e w1 ⟨rfl, hb1⟩; have HB2 := Lib.hid hb1; have b0 := cell_blk (node_kept hb1) 0; have b2 := cell_blk (node_kept hb1) 2; clear hb1; rw [HNB.out])) | (go_at_call 30; go_must (refine (opens_any _ _).mono ?_; rintro e w' ⟨rfl, rfl⟩; rw [HO.out])))
              go_roundg (l.length - (i + 1))
              case measure => omega
              case rel => exact ⟨i + 1, n.depth + 1, by go_num, by omega, rfl, by omega, by omega, below_box HB.out HB2.out, HF.out⟩
    · have hle : (l.length : Int) ≤ (i : Int) := by omega
      have HF : Hid (treeGo 0 l = true) := by
        show _ = _; rw [HQ.out, List.drop_eq_nil_of_le (by omega)]; rfl
      go_wp2_with fail
      go_ret
      exact RetBW.mk' HF.out.symm HB.out
end Go.Proofs.YtkfdcbdlcipmfaaGreatFmt
namespace Go.Proofs.YtkfdcbdlcipmfaaGreatFmt
open Go.RowKit Css
def namedB (s : List UInt8) (ascii : Bool) : Bool := decide (s.length ≤ 1048576) && isNameB s && lowB s ascii
set_option maxHeartbeats 1600000 in
set_option maxRecDepth 100000 in
theorem named2_any (s : ByteArray) (hs : (s.size : Int) ≤ 2147483647) (ascii : Bool) (w : World) : Calls Tryz.prog 12 #[.string s, .bool ascii] w (RetB (namedB s.data.toList ascii) w) := by
  have HS := Lib.hid hs
  have HS2 : Hid ((s.size : Int) ≤ 140737488355328) := by show _ ≤ _; omega
  have hl : s.data.toList.length = s.size := rfl
  have HU : Hid (namedB s.data.toList ascii = (decide (s.size ≤ 1048576) && isNameB s.data.toList && lowB s.data.toList ascii)) := rfl
  have h0 : (0 : Int) ≤ (s.size : Int) := by omega
  by_cases h1 : s.size ≤ 1048576
  · have h1' : (s.size : Int) ≤ 1048576 := by omega
    have HF : Hid (namedB s.data.toList ascii = (isNameB s.data.toList && lowB s.data.toList ascii)) := by show _ = _; rw [HU.out]; simp [h1]
    clear hs hl h1 HU
    cases hn : isNameB s.data.toList
    · have HNB := Lib.hid hn
      clear hn
      go_enter Tryz.func12, Tryz.ntmps12
      go_wp2_with (go_at_call 29; go_must (refine (IsName_any _ HS.out _).mono ?_; rintro e w' ⟨rfl, rfl⟩; rw [HNB.out]))
      go_ret
      exact RetB.mk' (by rw [HF.out, HNB.out]; rfl)
    · have HNB := Lib.hid hn
      clear hn
      go_enter Tryz.func12, Tryz.ntmps12
      go_wp2_with (first | (go_at_call 29; go_must (refine (IsName_any _ HS.out _).mono ?_; rintro e w' ⟨rfl, rfl⟩; rw [HNB.out])) | (go_at_call 26; go_must (refine (low2_any _ HS2.out _ _).mono ?_; rintro e w' ⟨rfl, rfl⟩)))
      go_ret
      exact RetB.mk' (by rw [HF.out, HNB.out]; rfl)
  · have h1' : (1048576 : Int) < (s.size : Int) := by omega
    have HF : Hid (namedB s.data.toList ascii = false) := by show _ = _; rw [HU.out]; simp [h1]
    clear hs hl h1 HU
    go_enter Tryz.func12, Tryz.ntmps12
    go_wp2_with fail
    go_ret
    exact RetB.mk' HF.out.symm
def RetTree (all ascii : Bool) (l : List RN) (w : World) (e : Ending) (w' : World) : Prop :=
  Below w.heap.size w w' ∧ ((treeOk ascii l = true ∧ ∃ v, e = .returned (.tuple #[v, .bool true]) ∧ w'.ownsRow w.heap.size 45 6 v l.length (nRow (setR all l))) ∨ (treeOk ascii l = false ∧ e = .returned (.tuple #[.slice none 0 0, .bool false])))
end Go.Proofs.YtkfdcbdlcipmfaaGreatFmt
