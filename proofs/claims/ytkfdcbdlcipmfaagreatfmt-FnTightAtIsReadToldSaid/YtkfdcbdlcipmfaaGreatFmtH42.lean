/- Walks: the reference: the token that a node is. -/
import Derived.Test.YtkfdcbdlcipmfaaGreatFmtH34
import Derived.BigQuiet
import Derived.Test.YtkfdcbdlcipmfaaGreatFmtH33
import Derived.Test.YtkfdcbdlcipmfaaGreatFmtH41
import Derived.Test.YtkfdcbdlcipmfaaGreatFmtH08
set_option linter.unusedVariables false
set_option linter.unusedSimpArgs false
namespace Go.Proofs.YtkfdcbdlcipmfaaGreatFmt
open Go.RowKit Css
theorem item_below (k u d : Int) (s : ByteArray) (b a : Bool) (o : Obj) (w : World) : Hid (Below w.heap.size w ((w.alloc (nBlk k u d s b a)).alloc o)) :=
  ((Below.refl _ _).alloc (Nat.le_refl _) _).alloc (by show _ ≤ (w.heap.push _).size; rw [Array.size_push]; omega) _
set_option maxHeartbeats 1600000 in
set_option maxRecDepth 100000 in
theorem item_any (k u d : Int) (s : ByteArray) (b a : Bool) (w : World) : Calls Tryz.prog 41 #[nV k u d s b a] w (RetVW (itV k u s 0) w) := by
  have HB := item_below k u d s b a (.cells #[.int .i64 k, .int .i64 u, .string s, .int .i64 0] 34) w
  have hres : ((w.alloc (.cells #[.int .i64 k, .int .i64 u, .int .i64 d, .string s, .bool b, .bool a] 50)).alloc (.cells #[.int .i64 k, .int .i64 u, .string s, .int .i64 0] 34)).heap[w.heap.size + 1]? = some (.cells #[.int .i64 k, .int .i64 u, .string s, .int .i64 0] 34) := by
    have e : w.heap.size + 1 = (w.heap.push (.cells #[.int .i64 k, .int .i64 u, .int .i64 d, .string s, .bool b, .bool a] 50)).size := by rw [Array.size_push]
    rw [e]
    show ((w.heap.push _).push _)[(w.heap.push _).size]? = _
    rw [Array.getElem?_push_size]
  unfold nV
  go_enter Tryz.func41, Tryz.ntmps41
  have HR := Lib.hid hres
  clear hres
  go_wp2_with fail
  have hres := HR.out
  have r0 := cell_blk hres 0
  have r1 := cell_blk hres 1
  have r2 := cell_blk hres 2
  have r3 := cell_blk hres 3
  refine bodyPost_ret (v := itV k u s 0) (by simp [results, Tryz.results41, go_sem, itV, r0, r1, r2, r3]) rfl ?_
  exact ⟨rfl, HB.out⟩
end Go.Proofs.YtkfdcbdlcipmfaaGreatFmt
namespace Go.Proofs.YtkfdcbdlcipmfaaGreatFmt
open Go.RowKit Css
end Go.Proofs.YtkfdcbdlcipmfaaGreatFmt
namespace Go.Proofs.YtkfdcbdlcipmfaaGreatFmt
open Go.RowKit Css
def follB (l : List RN) (i : Nat) : Int :=
  match l[i]? with
  | some n => if openQ n.kind then -1 else match l[i+1]? with
    | some m => if m.depth == n.depth then (i : Int) + 1 else -1
    | none => -1
  | none => -1
set_option maxHeartbeats 1600000 in
set_option maxRecDepth 100000 in
theorem follower_open (v : Value) (l : List RN) (i : Nat) (n : RN) (hn : l[i]? = some n) (ho : openQ n.kind = true) (w : World) (h : NodesAt v l w) : Calls Tryz.prog 39 #[v, .int .i64 (i : Int)] w (RetIW (follB l i) w) := by
  have hi : i < l.length := by
    rcases Nat.lt_or_ge i l.length with h1 | h1
    · exact h1
    · rw [List.getElem?_eq_none h1] at hn; cases hn
  have HF : Hid (follB l i = -1) := by show _ = _; unfold follB; rw [hn]; simp [ho]
  obtain ⟨q, c, hv, hq, hc⟩ := h.form (by intro e; subst e; simp at hi)
  subst hv
  have hc0 : w.cell? ⟨q, i * 6, none⟩ = some (.int .i64 n.kind) := hc _ _ (by have := nRow_get hn 0 (by decide); simpa [nCells] using this)
  have HO := Lib.hid ho
  have hlt : (i : Int) < (l.length : Int) := by omega
  have hz : (0 : Int) ≤ (i : Int) := by omega
  clear hc h hn ho
  go_enter Tryz.func39, Tryz.ntmps39
  go_wp2_with (go_at_call 30; go_must (refine (opens_any _ _).mono ?_; rintro e w' ⟨rfl, rfl⟩; rw [HO.out]))
  go_ret
  exact RetIW.mk' HF.out.symm (Below.refl _ _)
set_option maxHeartbeats 1600000 in
set_option maxRecDepth 100000 in
theorem follower_last (v : Value) (l : List RN) (hsz : l.length ≤ 2147483647) (i : Nat) (n : RN) (hn : l[i]? = some n) (ho : openQ n.kind = false) (hl : i + 1 = l.length) (w : World) (h : NodesAt v l w) : Calls Tryz.prog 39 #[v, .int .i64 (i : Int)] w (RetIW (follB l i) w) := by
  have HF : Hid (follB l i = -1) := by show _ = _; unfold follB; rw [hn, List.getElem?_eq_none (by omega)]; simp [ho]
  obtain ⟨q, c, hv, hq, hc⟩ := h.form (by intro e; subst e; simp at hn)
  subst hv
  have hc0 : w.cell? ⟨q, i * 6, none⟩ = some (.int .i64 n.kind) := hc _ _ (by have := nRow_get hn 0 (by decide); simpa [nCells] using this)
  have HO := Lib.hid ho
  have hi : i < l.length := by omega
  have hlt : (i : Int) < (l.length : Int) := by omega
  have hz : (0 : Int) ≤ (i : Int) := by omega
  have hb : (i : Int) + 1 ≤ 2147483647 := by omega
  have hd : decide ((i : Int) + 1 < (l.length : Int)) = false := by simp; omega
  clear hc h hn ho hl
  go_enter Tryz.func39, Tryz.ntmps39
  go_wp2_with (go_at_call 30; go_must (refine (opens_any _ _).mono ?_; rintro e w' ⟨rfl, rfl⟩; rw [HO.out]))
  go_quiet (fail)
  go_wp2_with fail
  go_ret
  exact RetIW.mk' (a := -1) HF.out.symm (below_drewN _ _)
set_option maxHeartbeats 1600000 in
set_option maxRecDepth 100000 in
theorem follower_next (v : Value) (l : List RN) (hsz : l.length ≤ 2147483647) (i : Nat) (n m : RN) (hn : l[i]? = some n) (hm : l[i+1]? = some m) (ho : openQ n.kind = false) (w : World) (h : NodesAt v l w) : Calls Tryz.prog 39 #[v, .int .i64 (i : Int)] w (RetIW (follB l i) w) := by
  have hl : i + 1 < l.length := by
    rcases Nat.lt_or_ge (i+1) l.length with h1 | h1
    · exact h1
    · rw [List.getElem?_eq_none h1] at hm; cases hm
  have HF : Hid (follB l i = if m.depth == n.depth then (i : Int) + 1 else -1) := by show _ = _; unfold follB; rw [hn, hm]; simp [ho]
  obtain ⟨q, c, hv, hq, hc⟩ := h.form (by intro e; subst e; simp at hn)
  subst hv
  have hc0 : w.cell? ⟨q, i * 6, none⟩ = some (.int .i64 n.kind) := hc _ _ (by have := nRow_get hn 0 (by decide); simpa [nCells] using this)
  have hc2 : w.cell? ⟨q, i * 6 + 2, none⟩ = some (.int .i64 n.depth) := hc _ _ (by have := nRow_get hn 2 (by decide); simpa [nCells] using this)
  have hc3 : w.cell? ⟨q, (i + 1) * 6 + 2, none⟩ = some (.int .i64 m.depth) := hc _ _ (by have := nRow_get hm 2 (by decide); simpa [nCells] using this)
  have HO := Lib.hid ho
  have hi : i < l.length := by omega
  have hlt : (i : Int) < (l.length : Int) := by omega
  have hz : (0 : Int) ≤ (i : Int) := by omega
  have hb : (i : Int) + 1 ≤ 2147483647 := by omega
  have hlt1 : (i : Int) + 1 < (l.length : Int) := by omega
  have hd : decide ((i : Int) + 1 < (l.length : Int)) = true := by simp; omega
  clear hc h hn hm ho
  cases he : (m.depth == n.depth)
  · go_enter Tryz.func39, Tryz.ntmps39
    go_wp2_with (go_at_call 30; go_must (refine (opens_any _ _).mono ?_; rintro e w' ⟨rfl, rfl⟩; rw [HO.out]))
    go_quiet (fail)
    go_wp2_with fail
    go_ret
    exact RetIW.mk' (a := -1) (by rw [HF.out, he]; rfl) (below_drewN _ _)
  · go_enter Tryz.func39, Tryz.ntmps39
    go_wp2_with (go_at_call 30; go_must (refine (opens_any _ _).mono ?_; rintro e w' ⟨rfl, rfl⟩; rw [HO.out]))
    go_quiet (fail)
    go_wp2_with fail
    go_ret
    exact RetIW.mk' (a := (i : Int) + 1) (by rw [HF.out, he]; rfl) (below_drewN _ _)
theorem follower_any (v : Value) (l : List RN) (hsz : l.length ≤ 2147483647) (i : Nat) (hi : i < l.length) (w : World) (h : NodesAt v l w) : Calls Tryz.prog 39 #[v, .int .i64 (i : Int)] w (RetIW (follB l i) w) := by
  obtain ⟨n, hn⟩ : ∃ n, l[i]? = some n := ⟨l[i], List.getElem?_eq_getElem hi⟩
  cases ho : openQ n.kind
  · by_cases hl : i + 1 = l.length
    · exact follower_last v l hsz i n hn ho hl w h
    · obtain ⟨m, hm⟩ : ∃ m, l[i+1]? = some m := ⟨l[i+1], List.getElem?_eq_getElem (by omega)⟩
      exact follower_next v l hsz i n m hn hm ho w h
  · exact follower_open v l i n hn ho w h
end Go.Proofs.YtkfdcbdlcipmfaaGreatFmt
namespace Go.Proofs.YtkfdcbdlcipmfaaGreatFmt
open Go.RowKit Css
theorem foll_need {asc all : Bool} {l : List RN} (hg : ∀ n ∈ l, isNodeB n = true ∧ lowB n.text asc = true) {i : Nat} {n : RN} (hn : l[i]? = some n) :
    (follB (setPre all l i) i = -1 ∧ needs n.cp ((l.drop (i + 1)).map RN.cp) = false) ∨ ∃ m, l[i + 1]? = some m ∧ follB (setPre all l i) i = ((i + 1 : Nat) : Int) ∧ needs n.cp ((l.drop (i + 1)).map RN.cp) = apB n.kind ⟨⟨n.text⟩⟩ m.kind ⟨⟨m.text⟩⟩ := by
  have hi : i < l.length := (List.getElem?_eq_some_iff.1 hn).1
  have e0 : (setPre all l i)[i]? = some n := by rw [setPre_at all l i i (Nat.le_refl _) (by omega)]; exact hn
  have e1 : (setPre all l i)[i + 1]? = l[i + 1]? := setPre_at all l i (i + 1) (by omega) (by omega)
  rw [needs_bytes hg hn]
  unfold follB
  rw [e0, e1]
  cases hm : l[i + 1]? with
  | none =>
    left
    have hd : l.drop (i + 1) = [] := List.drop_eq_nil_of_le (List.getElem?_eq_none_iff.1 hm)
    rw [hd]
    exact ⟨by dsimp only; split <;> rfl, rfl⟩
  | some m =>
    have hd : l.drop (i + 1) = m :: l.drop (i + 2) := by
      obtain ⟨hlt, e⟩ := List.getElem?_eq_some_iff.1 hm
      rw [← e]; exact List.drop_eq_getElem_cons hlt
    rw [hd]
    dsimp only [needB]
    cases ho : openQ n.kind
    · by_cases hdp : m.depth = n.depth
      · right
        refine ⟨m, rfl, ?_, ?_⟩
        · simp [hdp]
        · simp [hdp]
      · left
        simp [hdp]
    · left
      simp
set_option maxHeartbeats 3200000 in
set_option maxRecDepth 100000 in
theorem set_must (asc : Bool) (v : Value) (l : List RN) (hl : l.length ≤ 1000) (hg : ∀ n ∈ l, isNodeB n = true ∧ lowB n.text asc = true) (w : World) (h : NodesAt v l w) : Calls Tryz.prog 28 #[v, .bool false] w (RetN 50 (setR false l) w) := by
  obtain ⟨A, c, rfl⟩ := h.slice
  have HA : Hid (A = none → l.length = 0 ∧ c = 0) := fun hA => h.none_len hA
  have HC : Hid (∀ ad, A = some ad → ∀ j u, (nRow l)[j]? = some u → w.cell? (ad.add j) = some u) := by
    intro ad hA; subst hA; exact h.cellsOf
  have HL := Lib.hid hl
  have HGD := Lib.hid hg
  rename World => w0
  clear h hg
  go_enter Tryz.func28, Tryz.ntmps28
  go_wp2_with (at_builtin; go_must (refine wpList_appN rfl _ _ 31 50 rfl Tryz.underlying31 info50 rfl (by decide) (World.ownsRow_nil w0 w0.heap.size 50 6) (Nat.le_refl _) A l.length c (nRow l) (nRow_len l) HA.out HC.out (nRow_one l) (by have := HL.out; omega) (by have := HL.out; unfold maxLen; omega) rfl rfl ?_; intro v1 w1 hw1 _ hb1; rw [Nat.zero_add, List.nil_append] at hw1; obtain ⟨A1, c1, rfl⟩ := own_slice hw1; have HW1 := Lib.hid hw1; have HB1 := Lib.hid hb1; clear hw1 hb1))
  go_loopg [6, 7, 12] l.length (fun k p6 p7 p12 wr => ∃ i : Nat, p12 = .int .i64 i ∧ i + k = l.length ∧ Hid (Below w0.heap.size w0 wr) ∧ Hid (wr.ownsRow w0.heap.size 50 6 (.slice A1 l.length c1) l.length (nRow (setPre false l i))))
  case atStart => exact ⟨0, rfl, by omega, HB1.out, HW1.out⟩
  case round =>
    obtain ⟨i, rfl, hik, HB, HO⟩ := hrel
    have hi0 : (0 : Int) ≤ (i : Int) := by omega
    have hi1 : (i : Int) ≤ 1000 := by omega
    by_cases hlt : i < l.length
    · have hlti : (i : Int) < (l.length : Int) := by omega
      obtain ⟨n, hn⟩ : ∃ n, l[i]? = some n := ⟨l[i], List.getElem?_eq_getElem hlt⟩
      have hn2 : (setPre false l i)[i]? = some n := by rw [setPre_at false l i i (Nat.le_refl _) (by omega)]; exact hn
      have hlp := setPre_len false l i
      have hown : wr.ownsRow w0.heap.size 50 6 (.slice A1 (setPre false l i).length c1) (setPre false l i).length (nRow (setPre false l i)) := by rw [hlp]; exact HO.out
      have HOK : Hid (∀ w', Below wr.heap.size wr w' → w'.ownsRow w0.heap.size 50 6 (.slice A1 (setPre false l i).length c1) (setPre false l i).length (nRow (setPre false l i))) := fun w' hb => own_keep hown fun q hq => hb.block q (own_lt hown hq).1
      have hfo := follower_any _ (setPre false l i) (by omega) i (by omega) wr (own_nodes hown)
      rw [hlp] at hfo
      have hw2 : (setPre false l i).set i { n with after := n.after } = setPre false l i := by
        have e : (setPre false l i)[i]? = some { n with after := n.after } := hn2
        obtain ⟨h1, h2⟩ := List.getElem?_eq_some_iff.1 e
        rw [← h2]; exact List.set_getElem_self h1
      have HS : Hid (setPre false l (i + 1) = (setPre false l i).set i { n with after := n.after || needs n.cp ((l.drop (i + 1)).map RN.cp) }) := by
        show _ = _; rw [setPre_succ false l i n hn, Bool.or_false]
      rcases foll_need (all := false) HGD.out hn with ⟨hf, hx⟩ | ⟨m, hm, hf, hx⟩
      · rw [hf] at hfo
        have HFO := Lib.hid hfo
        have HSAME : Hid (setPre false l (i + 1) = setPre false l i) := by
          show _ = _; rw [HS.out, hx, Bool.or_false]; exact hw2
        clear hn hn2 hown HO hfo hf hx hw2
        go_wp2_with (go_at_call 39; go_must (refine HFO.out.mono ?_; rintro e w1 ⟨rfl, hb⟩; have HBF := Lib.hid hb; clear hb))
        have HO9 : Hid (∀ k, (w1.drewN k).ownsRow w0.heap.size 50 6 (.slice A1 l.length c1) l.length (nRow (setPre false l (i + 1)))) := fun k => by
          have := HOK.out _ (below_then HBF.out (below_drewN w1 k))
          rw [hlp] at this; rw [HSAME.out]; exact this
        go_quiet (fail)
        go_wp2_with fail
        go_roundg (l.length - (i + 1))
        case measure => omega
        case rel => exact ⟨i + 1, by go_num, by omega, HB.out.trans ((below_then HBF.out (below_drewN _ _)).mono HB.out.size), HO9.out _⟩
      · rw [hf] at hfo
        have HFO := Lib.hid hfo
        have hm2 : (setPre false l i)[i + 1]? = some m := by rw [setPre_at false l i (i + 1) (by omega) (by omega)]; exact hm
        have hlt2 : i + 1 < l.length := (List.getElem?_eq_some_iff.1 hm).1
        obtain ⟨q, hA1, hq, hc⟩ := (own_nodes hown).node hn2
        obtain ⟨q2, hA2, hq2, hd⟩ := (own_nodes hown).node hm2
        rw [hA1] at hA2
        injection hA2 with hA2
        injection hA2 with hA2
        subst hA2
        obtain ⟨p, hp⟩ : ∃ p : Nat, p = i + 1 := ⟨_, rfl⟩
        rw [← hp] at hd HFO hm2 hm hlt2
        have hpi : (p : Int) < (l.length : Int) := by omega
        have hp0 : (0 : Int) ≤ (p : Int) := by omega
        have hp1 : (p : Int) ≤ 1001 := by omega
        have HP := Lib.hid hp
        have HNODE := Lib.hid hc
        have HNODE2 := Lib.hid hd
        have HN2 := Lib.hid hn2
        have HXX := Lib.hid hx
        have HCALL : Hid (∀ w', Calls Tryz.prog 40 #[itV n.kind n.unit ⟨⟨n.text⟩⟩ 0, itV m.kind m.unit ⟨⟨m.text⟩⟩ 0] w' (RetBW (apB n.kind ⟨⟨n.text⟩⟩ m.kind ⟨⟨m.text⟩⟩) w')) := fun w' => apart_any _ _ _ _ _ _ _ _ w'
        generalize apB n.kind ⟨⟨n.text⟩⟩ m.kind ⟨⟨m.text⟩⟩ = y at HXX HCALL
        have HA1 := Lib.hid hA1
        subst hA1
        clear hn hm hn2 hm2 hown HO hfo hf hx hw2 hc hd hq hq2 hp
        go_wp2_with (go_at_call 39; go_must (refine HFO.out.mono ?_; rintro e w1 ⟨rfl, hb⟩; have HBF := Lib.hid hb; clear hb))
        obtain ⟨Ix, hne, f, hf1, hf2⟩ := below_class w1
        have z0 : ∀ n', (f n').cell? ⟨q, i * 6, none⟩ = some (.int .i64 n.kind) := fun n' => class_cell hf1 (below_cell HBF.out HNODE.out.c0) n'
        have z1 : ∀ n', (f n').cell? ⟨q, i * 6 + 1, none⟩ = some (.int .i64 n.unit) := fun n' => class_cell hf1 (below_cell HBF.out HNODE.out.c1) n'
        have z2 : ∀ n', (f n').cell? ⟨q, i * 6 + 2, none⟩ = some (.int .i64 n.depth) := fun n' => class_cell hf1 (below_cell HBF.out HNODE.out.c2) n'
        have z3 : ∀ n', (f n').cell? ⟨q, i * 6 + 3, none⟩ = some (.string ⟨⟨n.text⟩⟩) := fun n' => class_cell hf1 (below_cell HBF.out HNODE.out.c3) n'
        have z4 : ∀ n', (f n').cell? ⟨q, i * 6 + 4, none⟩ = some (.bool n.before) := fun n' => class_cell hf1 (below_cell HBF.out HNODE.out.c4) n'
        have z5 : ∀ n', (f n').cell? ⟨q, i * 6 + 5, none⟩ = some (.bool n.after) := fun n' => class_cell hf1 (below_cell HBF.out HNODE.out.c5) n'
        have y0 : ∀ n', (f n').cell? ⟨q, p * 6, none⟩ = some (.int .i64 m.kind) := fun n' => class_cell hf1 (below_cell HBF.out HNODE2.out.c0) n'
        have y1 : ∀ n', (f n').cell? ⟨q, p * 6 + 1, none⟩ = some (.int .i64 m.unit) := fun n' => class_cell hf1 (below_cell HBF.out HNODE2.out.c1) n'
        have y2 : ∀ n', (f n').cell? ⟨q, p * 6 + 2, none⟩ = some (.int .i64 m.depth) := fun n' => class_cell hf1 (below_cell HBF.out HNODE2.out.c2) n'
        have y3 : ∀ n', (f n').cell? ⟨q, p * 6 + 3, none⟩ = some (.string ⟨⟨m.text⟩⟩) := fun n' => class_cell hf1 (below_cell HBF.out HNODE2.out.c3) n'
        have y4 : ∀ n', (f n').cell? ⟨q, p * 6 + 4, none⟩ = some (.bool m.before) := fun n' => class_cell hf1 (below_cell HBF.out HNODE2.out.c4) n'
        have y5 : ∀ n', (f n').cell? ⟨q, p * 6 + 5, none⟩ = some (.bool m.after) := fun n' => class_cell hf1 (below_cell HBF.out HNODE2.out.c5) n'
        have HF1 := Lib.hid hf1
        have HF2 := Lib.hid hf2
        clear hf1 hf2
        refine wp_region_class (f := f) (by kernel_rfl) (by kernel_rfl) HF2.out ?_
        repeat (go_big_quiet_step (first | (go_at_call 41; exact (item_any _ _ _ _ _ _ _).mono fun e w' h => ⟨h.1, class_next HF1.out HF2.out h.2⟩) | (go_at_call 40; exact (HCALL.out _).mono fun e w' h => ⟨h.1, class_next HF1.out HF2.out h.2⟩)))
        refine wpQuiet_nil ?_
        intro w9 hw9
        obtain ⟨nq, hw9⟩ := hw9
        subst hw9
        have hc5 := z5 nq
        clear z0 z1 z2 z3 z4 z5 y0 y1 y2 y3 y4 y5
        have HB9 := Lib.hid (below_then HBF.out (HF1.out nq))
        have HOF := Lib.hid (HOK.out _ HB9.out)
        cases y
        · have HSAME : Hid (setPre false l (i + 1) = setPre false l i) := by
            show _ = _; rw [HS.out, HXX.out, Bool.or_false]
            have e : (setPre false l i)[i]? = some { n with after := n.after } := HN2.out
            obtain ⟨h1, h2⟩ := List.getElem?_eq_some_iff.1 e
            rw [← h2]; exact List.set_getElem_self h1
          go_wp2_with fail
          go_roundg (l.length - (i + 1))
          case measure => omega
          case rel => exact ⟨i + 1, by go_num, by omega, HB.out.trans (HB9.out.mono HB.out.size), by have := HOF.out; rw [hlp] at this; show World.ownsRow _ _ _ _ _ _ _; rw [HSAME.out]; exact this⟩
        · have HST := Lib.hid (row_store (x := true) HOF.out rfl HN2.out)
          have hf5 : (f nq).frozen? ⟨q, i * 6 + 5, none⟩ = false := HOF.out.frozenAt _
          have HSN : Hid (setPre false l (i + 1) = (setPre false l i).set i { n with after := true }) := by
            show _ = _; rw [HS.out, HXX.out, Bool.or_true]
          go_wp2_with fail
          go_roundg (l.length - (i + 1))
          case measure => omega
          case rel => exact ⟨i + 1, by go_num, by omega, (HB.out.trans (HB9.out.mono HB.out.size)).trans HST.out.2, by have := HST.out.1; rw [hlp] at this; show World.ownsRow _ _ _ _ _ _ _; rw [HSN.out]; exact this⟩
    · have hle : (l.length : Int) ≤ (i : Int) := by omega
      have hil : i = l.length := by omega
      go_wp2_with fail
      go_ret
      subst hil
      have := HO.out
      rw [setPre_all] at this
      exact ⟨_, rfl, by rw [setR_len]; exact this, HB.out⟩
end Go.Proofs.YtkfdcbdlcipmfaaGreatFmt
