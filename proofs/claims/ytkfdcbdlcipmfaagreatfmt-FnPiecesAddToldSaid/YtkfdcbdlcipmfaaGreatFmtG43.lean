/- Walks: the reference: the token that a node is. -/
import Derived.Test.YtkfdcbdlcipmfaaGreatFmtG38
import Derived.BigQuiet
import Derived.Test.YtkfdcbdlcipmfaaGreatFmtG36
import Derived.Test.YtkfdcbdlcipmfaaGreatFmtG42
import Derived.Test.YtkfdcbdlcipmfaaGreatFmtG10
import Derived.Test.YtkfdcbdlcipmfaaGreatFmtG08
import Derived.Test.YtkfdcbdlcipmfaaGreatFmtG40
import Derived.Deep.RegionHeld3
import Derived.Test.YtkfdcbdlcipmfaaGreatFmtG09
import Derived.Test.YtkfdcbdlcipmfaaGreatFmtG37
set_option linter.unusedVariables false
set_option linter.unusedSimpArgs false
namespace Go.Proofs.YtkfdcbdlcipmfaaGreatFmt
open Go.RowKit Css
theorem item_below (k u d : Int) (s : ByteArray) (b a : Bool) (o : Obj) (w : World) : Hid (Below w.heap.size w ((w.alloc (nBlk k u d s b a)).alloc o)) :=
  ((Below.refl _ _).alloc (Nat.le_refl _) _).alloc (by show _ ≤ (w.heap.push _).size; rw [Array.size_push]; omega) _
set_option maxHeartbeats 1600000 in
set_option maxRecDepth 100000 in
theorem item_any (k u d : Int) (s : ByteArray) (b a : Bool) (w : World) : Calls Tryz.prog 41 #[nV k u d s b a] w (RetVW (itV k u s 0) w) := by
  have HB := item_below k u d s b a (.cells #[.int .i64 k, .int .i64 u, .string s, .int .i64 0] 34) w
  have hres : ((w.alloc (.cells #[.int .i64 k, .int .i64 u, .int .i64 d, .string s, .bool b, .bool a] 50)).alloc (.cells #[.int .i64 k, .int .i64 u, .string s, .int .i64 0] 34)).heap[w.heap.size + 1]? = some (.cells #[.int .i64 k, .int .i64 u, .string s, .int .i64 0] 34) := by
    have e : w.heap.size + 1 = (w.heap.push (.cells #[.int .i64 k, .int .i64 u, .int .i64 d, .string s, .bool b, .bool a] 50)).size := by rw [Array.size_push]
    rw [e]
    show ((w.heap.push _).push _)[(w.heap.push _).size]? = _
    rw [Array.getElem?_push_size]
  unfold nV
  go_enter Tryz.func41, Tryz.ntmps41
  have HR := Lib.hid hres
  clear hres
  go_wp2_with fail
  have hres := HR.out
  have r0 := cell_blk hres 0
  have r1 := cell_blk hres 1
  have r2 := cell_blk hres 2
  have r3 := cell_blk hres 3
  refine bodyPost_ret (v := itV k u s 0) (by simp [results, Tryz.results41, go_sem, itV, r0, r1, r2, r3]) rfl ?_
  exact ⟨rfl, HB.out⟩
end Go.Proofs.YtkfdcbdlcipmfaaGreatFmt
namespace Go.Proofs.YtkfdcbdlcipmfaaGreatFmt
open Go.RowKit Css
end Go.Proofs.YtkfdcbdlcipmfaaGreatFmt
namespace Go.Proofs.YtkfdcbdlcipmfaaGreatFmt
open Go.RowKit Css
def follB (l : List RN) (i : Nat) : Int :=
  match l[i]? with
  | some n => if openQ n.kind then -1 else match l[i+1]? with
    | some m => if m.depth == n.depth then (i : Int) + 1 else -1
    | none => -1
  | none => -1
set_option maxHeartbeats 1600000 in
set_option maxRecDepth 100000 in
theorem follower_open (v : Value) (l : List RN) (i : Nat) (n : RN) (hn : l[i]? = some n) (ho : openQ n.kind = true) (w : World) (h : NodesAt v l w) : Calls Tryz.prog 39 #[v, .int .i64 (i : Int)] w (RetIW (follB l i) w) := by
  have hi : i < l.length := by
    rcases Nat.lt_or_ge i l.length with h1 | h1
    · exact h1
    · rw [List.getElem?_eq_none h1] at hn; cases hn
  have HF : Hid (follB l i = -1) := by show _ = _; unfold follB; rw [hn]; simp [ho]
  obtain ⟨q, c, hv, hq, hc⟩ := h.form (by intro e; subst e; simp at hi)
  subst hv
  have hc0 : w.cell? ⟨q, i * 6, none⟩ = some (.int .i64 n.kind) := hc _ _ (by have := nRow_get hn 0 (by decide); simpa [nCells] using this)
  have HO := Lib.hid ho
  have hlt : (i : Int) < (l.length : Int) := by omega
  have hz : (0 : Int) ≤ (i : Int) := by omega
  clear hc h hn ho
  go_enter Tryz.func39, Tryz.ntmps39
  go_wp2_with (go_at_call 30; go_must (refine (opens_any _ _).mono ?_; rintro e w' ⟨rfl, rfl⟩; rw [HO.out]))
  go_ret
  exact RetIW.mk' HF.out.symm (Below.refl _ _)
set_option maxHeartbeats 1600000 in
set_option maxRecDepth 100000 in
theorem follower_last (v : Value) (l : List RN) (hsz : l.length ≤ 2147483647) (i : Nat) (n : RN) (hn : l[i]? = some n) (ho : openQ n.kind = false) (hl : i + 1 = l.length) (w : World) (h : NodesAt v l w) : Calls Tryz.prog 39 #[v, .int .i64 (i : Int)] w (RetIW (follB l i) w) := by
  have HF : Hid (follB l i = -1) := by show _ = _; unfold follB; rw [hn, List.getElem?_eq_none (by omega)]; simp [ho]
  obtain ⟨q, c, hv, hq, hc⟩ := h.form (by intro e; subst e; simp at hn)
  subst hv
  have hc0 : w.cell? ⟨q, i * 6, none⟩ = some (.int .i64 n.kind) := hc _ _ (by have := nRow_get hn 0 (by decide); simpa [nCells] using this)
  have HO := Lib.hid ho
  have hi : i < l.length := by omega
  have hlt : (i : Int) < (l.length : Int) := by omega
  have hz : (0 : Int) ≤ (i : Int) := by omega
  have hb : (i : Int) + 1 ≤ 2147483647 := by omega
  have hd : decide ((i : Int) + 1 < (l.length : Int)) = false := by simp; omega
  clear hc h hn ho hl
  go_enter Tryz.func39, Tryz.ntmps39
  go_wp2_with (go_at_call 30; go_must (refine (opens_any _ _).mono ?_; rintro e w' ⟨rfl, rfl⟩; rw [HO.out]))
  go_quiet (fail)
  go_wp2_with fail
  go_ret
  exact RetIW.mk' (a := -1) HF.out.symm (below_drewN _ _)
set_option maxHeartbeats 1600000 in
set_option maxRecDepth 100000 in
theorem follower_next (v : Value) (l : List RN) (hsz : l.length ≤ 2147483647) (i : Nat) (n m : RN) (hn : l[i]? = some n) (hm : l[i+1]? = some m) (ho : openQ n.kind = false) (w : World) (h : NodesAt v l w) : Calls Tryz.prog 39 #[v, .int .i64 (i : Int)] w (RetIW (follB l i) w) := by
  have hl : i + 1 < l.length := by
    rcases Nat.lt_or_ge (i+1) l.length with h1 | h1
    · exact h1
    · rw [List.getElem?_eq_none h1] at hm; cases hm
  have HF : Hid (follB l i = if m.depth == n.depth then (i : Int) + 1 else -1) := by show _ = _; unfold follB; rw [hn, hm]; simp [ho]
  obtain ⟨q, c, hv, hq, hc⟩ := h.form (by intro e; subst e; simp at hn)
  subst hv
  have hc0 : w.cell? ⟨q, i * 6, none⟩ = some (.int .i64 n.kind) := hc _ _ (by have := nRow_get hn 0 (by decide); simpa [nCells] using this)
  have hc2 : w.cell? ⟨q, i * 6 + 2, none⟩ = some (.int .i64 n.depth) := hc _ _ (by have := nRow_get hn 2 (by decide); simpa [nCells] using this)
  have hc3 : w.cell? ⟨q, (i + 1) * 6 + 2, none⟩ = some (.int .i64 m.depth) := hc _ _ (by have := nRow_get hm 2 (by decide); simpa [nCells] using this)
  have HO := Lib.hid ho
  have hi : i < l.length := by omega
  have hlt : (i : Int) < (l.length : Int) := by omega
  have hz : (0 : Int) ≤ (i : Int) := by omega
  have hb : (i : Int) + 1 ≤ 2147483647 := by omega
  have hlt1 : (i : Int) + 1 < (l.length : Int) := by omega
  have hd : decide ((i : Int) + 1 < (l.length : Int)) = true := by simp; omega
  clear hc h hn hm ho
  cases he : (m.depth == n.depth)
  · go_enter Tryz.func39, Tryz.ntmps39
    go_wp2_with (go_at_call 30; go_must (refine (opens_any _ _).mono ?_; rintro e w' ⟨rfl, rfl⟩; rw [HO.out]))
    go_quiet (fail)
    go_wp2_with fail
    go_ret
    exact RetIW.mk' (a := -1) (by rw [HF.out, he]; rfl) (below_drewN _ _)
  · go_enter Tryz.func39, Tryz.ntmps39
    go_wp2_with (go_at_call 30; go_must (refine (opens_any _ _).mono ?_; rintro e w' ⟨rfl, rfl⟩; rw [HO.out]))
    go_quiet (fail)
    go_wp2_with fail
    go_ret
    exact RetIW.mk' (a := (i : Int) + 1) (by rw [HF.out, he]; rfl) (below_drewN _ _)
theorem follower_any (v : Value) (l : List RN) (hsz : l.length ≤ 2147483647) (i : Nat) (hi : i < l.length) (w : World) (h : NodesAt v l w) : Calls Tryz.prog 39 #[v, .int .i64 (i : Int)] w (RetIW (follB l i) w) := by
  obtain ⟨n, hn⟩ : ∃ n, l[i]? = some n := ⟨l[i], List.getElem?_eq_getElem hi⟩
  cases ho : openQ n.kind
  · by_cases hl : i + 1 = l.length
    · exact follower_last v l hsz i n hn ho hl w h
    · obtain ⟨m, hm⟩ : ∃ m, l[i+1]? = some m := ⟨l[i+1], List.getElem?_eq_getElem (by omega)⟩
      exact follower_next v l hsz i n m hn hm ho w h
  · exact follower_open v l i n hn ho w h
end Go.Proofs.YtkfdcbdlcipmfaaGreatFmt
namespace Go.Proofs.YtkfdcbdlcipmfaaGreatFmt
open Go.RowKit Css
theorem foll_need {asc all : Bool} {l : List RN} (hg : ∀ n ∈ l, isNodeB n = true ∧ lowB n.text asc = true) {i : Nat} {n : RN} (hn : l[i]? = some n) :
    (follB (setPre all l i) i = -1 ∧ needs n.cp ((l.drop (i + 1)).map RN.cp) = false) ∨ ∃ m, l[i + 1]? = some m ∧ follB (setPre all l i) i = ((i + 1 : Nat) : Int) ∧ needs n.cp ((l.drop (i + 1)).map RN.cp) = apB n.kind ⟨⟨n.text⟩⟩ m.kind ⟨⟨m.text⟩⟩ := by
  have hi : i < l.length := (List.getElem?_eq_some_iff.1 hn).1
  have e0 : (setPre all l i)[i]? = some n := by rw [setPre_at all l i i (Nat.le_refl _) (by omega)]; exact hn
  have e1 : (setPre all l i)[i + 1]? = l[i + 1]? := setPre_at all l i (i + 1) (by omega) (by omega)
  rw [needs_bytes hg hn]
  unfold follB
  rw [e0, e1]
  cases hm : l[i + 1]? with
  | none =>
    left
    have hd : l.drop (i + 1) = [] := List.drop_eq_nil_of_le (List.getElem?_eq_none_iff.1 hm)
    rw [hd]
    exact ⟨by dsimp only; split <;> rfl, rfl⟩
  | some m =>
    have hd : l.drop (i + 1) = m :: l.drop (i + 2) := by
      obtain ⟨hlt, e⟩ := List.getElem?_eq_some_iff.1 hm
      rw [← e]; exact List.drop_eq_getElem_cons hlt
    rw [hd]
    dsimp only [needB]
    cases ho : openQ n.kind
    · by_cases hdp : m.depth = n.depth
      · right
        refine ⟨m, rfl, ?_, ?_⟩
        · simp [hdp]
        · simp [hdp]
      · left
        simp [hdp]
    · left
      simp
set_option maxHeartbeats 3200000 in
set_option maxRecDepth 100000 in
theorem set_must (asc : Bool) (v : Value) (l : List RN) (hl : l.length ≤ 1000) (hg : ∀ n ∈ l, isNodeB n = true ∧ lowB n.text asc = true) (w : World) (h : NodesAt v l w) : Calls Tryz.prog 28 #[v, .bool false] w (RetN 50 (setR false l) w) := by
  obtain ⟨A, c, rfl⟩ := h.slice
  have HA : Hid (A = none → l.length = 0 ∧ c = 0) := fun hA => h.none_len hA
  have HC : Hid (∀ ad, A = some ad → ∀ j u, (nRow l)[j]? = some u → w.cell? (ad.add j) = some u) := by
    intro ad hA; subst hA; exact h.cellsOf
  have HL := Lib.hid hl
  have HGD := Lib.hid hg
  rename World => w0
  clear h hg
  go_enter Tryz.func28, Tryz.ntmps28
  go_wp2_with (at_builtin; go_must (refine wpList_appN rfl _ _ 31 50 rfl Tryz.underlying31 info50 rfl (by decide) (World.ownsRow_nil w0 w0.heap.size 50 6) (Nat.le_refl _) A l.length c (nRow l) (nRow_len l) HA.out HC.out (nRow_one l) (by have := HL.out; omega) (by have := HL.out; unfold maxLen; omega) rfl rfl ?_; intro v1 w1 hw1 _ hb1; rw [Nat.zero_add, List.nil_append] at hw1; obtain ⟨A1, c1, rfl⟩ := own_slice hw1; have HW1 := Lib.hid hw1; have HB1 := Lib.hid hb1; clear hw1 hb1))
  go_loopg [6, 7, 12] l.length (fun k p6 p7 p12 wr => ∃ i : Nat, p12 = .int .i64 i ∧ i + k = l.length ∧ Hid (Below w0.heap.size w0 wr) ∧ Hid (wr.ownsRow w0.heap.size 50 6 (.slice A1 l.length c1) l.length (nRow (setPre false l i))))
  case atStart => exact ⟨0, rfl, by omega, HB1.out, HW1.out⟩
  case round =>
    obtain ⟨i, rfl, hik, HB, HO⟩ := hrel
    have hi0 : (0 : Int) ≤ (i : Int) := by omega
    have hi1 : (i : Int) ≤ 1000 := by omega
    by_cases hlt : i < l.length
    · have hlti : (i : Int) < (l.length : Int) := by omega
      obtain ⟨n, hn⟩ : ∃ n, l[i]? = some n := ⟨l[i], List.getElem?_eq_getElem hlt⟩
      have hn2 : (setPre false l i)[i]? = some n := by rw [setPre_at false l i i (Nat.le_refl _) (by omega)]; exact hn
      have hlp := setPre_len false l i
      have hown : wr.ownsRow w0.heap.size 50 6 (.slice A1 (setPre false l i).length c1) (setPre false l i).length (nRow (setPre false l i)) := by rw [hlp]; exact HO.out
      have HOK : Hid (∀ w', Below wr.heap.size wr w' → w'.ownsRow w0.heap.size 50 6 (.slice A1 (setPre false l i).length c1) (setPre false l i).length (nRow (setPre false l i))) := fun w' hb => own_keep hown fun q hq => hb.block q (own_lt hown hq).1
      have hfo := follower_any _ (setPre false l i) (by omega) i (by omega) wr (own_nodes hown)
      rw [hlp] at hfo
      have hw2 : (setPre false l i).set i { n with after := n.after } = setPre false l i := by
        have e : (setPre false l i)[i]? = some { n with after := n.after } := hn2
        obtain ⟨h1, h2⟩ := List.getElem?_eq_some_iff.1 e
        rw [← h2]; exact List.set_getElem_self h1
      have HS : Hid (setPre false l (i + 1) = (setPre false l i).set i { n with after := n.after || needs n.cp ((l.drop (i + 1)).map RN.cp) }) := by
        show _ = _; rw [setPre_succ false l i n hn, Bool.or_false]
      rcases foll_need (all := false) HGD.out hn with ⟨hf, hx⟩ | ⟨m, hm, hf, hx⟩
      · rw [hf] at hfo
        have HFO := Lib.hid hfo
        have HSAME : Hid (setPre false l (i + 1) = setPre false l i) := by
          show _ = _; rw [HS.out, hx, Bool.or_false]; exact hw2
        clear hn hn2 hown HO hfo hf hx hw2
        go_wp2_with (go_at_call 39; go_must (refine HFO.out.mono ?_; rintro e w1 ⟨rfl, hb⟩; have HBF := Lib.hid hb; clear hb))
        have HO9 : Hid (∀ k, (w1.drewN k).ownsRow w0.heap.size 50 6 (.slice A1 l.length c1) l.length (nRow (setPre false l (i + 1)))) := fun k => by
          have := HOK.out _ (below_then HBF.out (below_drewN w1 k))
          rw [hlp] at this; rw [HSAME.out]; exact this
        go_quiet (fail)
        go_wp2_with fail
        go_roundg (l.length - (i + 1))
        case measure => omega
        case rel => exact ⟨i + 1, by go_num, by omega, HB.out.trans ((below_then HBF.out (below_drewN _ _)).mono HB.out.size), HO9.out _⟩
      · rw [hf] at hfo
        have HFO := Lib.hid hfo
        have hm2 : (setPre false l i)[i + 1]? = some m := by rw [setPre_at false l i (i + 1) (by omega) (by omega)]; exact hm
        have hlt2 : i + 1 < l.length := (List.getElem?_eq_some_iff.1 hm).1
        obtain ⟨q, hA1, hq, hc⟩ := (own_nodes hown).node hn2
        obtain ⟨q2, hA2, hq2, hd⟩ := (own_nodes hown).node hm2
        rw [hA1] at hA2
        injection hA2 with hA2
        injection hA2 with hA2
        subst hA2
        obtain ⟨p, hp⟩ : ∃ p : Nat, p = i + 1 := ⟨_, rfl⟩
        rw [← hp] at hd HFO hm2 hm hlt2
        have hpi : (p : Int) < (l.length : Int) := by omega
        have hp0 : (0 : Int) ≤ (p : Int) := by omega
        have hp1 : (p : Int) ≤ 1001 := by omega
        have HP := Lib.hid hp
        have HNODE := Lib.hid hc
        have HNODE2 := Lib.hid hd
        have HN2 := Lib.hid hn2
        have HXX := Lib.hid hx
        have HCALL : Hid (∀ w', Calls Tryz.prog 40 #[itV n.kind n.unit ⟨⟨n.text⟩⟩ 0, itV m.kind m.unit ⟨⟨m.text⟩⟩ 0] w' (RetBW (apB n.kind ⟨⟨n.text⟩⟩ m.kind ⟨⟨m.text⟩⟩) w')) := fun w' => apart_any _ _ _ _ _ _ _ _ w'
        generalize apB n.kind ⟨⟨n.text⟩⟩ m.kind ⟨⟨m.text⟩⟩ = y at HXX HCALL
        have HA1 := Lib.hid hA1
        subst hA1
        clear hn hm hn2 hm2 hown HO hfo hf hx hw2 hc hd hq hq2 hp
        go_wp2_with (go_at_call 39; go_must (refine HFO.out.mono ?_; rintro e w1 ⟨rfl, hb⟩; have HBF := Lib.hid hb; clear hb))
        obtain ⟨Ix, hne, f, hf1, hf2⟩ := below_class w1
        have z0 : ∀ n', (f n').cell? ⟨q, i * 6, none⟩ = some (.int .i64 n.kind) := fun n' => class_cell hf1 (below_cell HBF.out HNODE.out.c0) n'
        have z1 : ∀ n', (f n').cell? ⟨q, i * 6 + 1, none⟩ = some (.int .i64 n.unit) := fun n' => class_cell hf1 (below_cell HBF.out HNODE.out.c1) n'
        have z2 : ∀ n', (f n').cell? ⟨q, i * 6 + 2, none⟩ = some (.int .i64 n.depth) := fun n' => class_cell hf1 (below_cell HBF.out HNODE.out.c2) n'
        have z3 : ∀ n', (f n').cell? ⟨q, i * 6 + 3, none⟩ = some (.string ⟨⟨n.text⟩⟩) := fun n' => class_cell hf1 (below_cell HBF.out HNODE.out.c3) n'
        have z4 : ∀ n', (f n').cell? ⟨q, i * 6 + 4, none⟩ = some (.bool n.before) := fun n' => class_cell hf1 (below_cell HBF.out HNODE.out.c4) n'
        have z5 : ∀ n', (f n').cell? ⟨q, i * 6 + 5, none⟩ = some (.bool n.after) := fun n' => class_cell hf1 (below_cell HBF.out HNODE.out.c5) n'
        have y0 : ∀ n', (f n').cell? ⟨q, p * 6, none⟩ = some (.int .i64 m.kind) := fun n' => class_cell hf1 (below_cell HBF.out HNODE2.out.c0) n'
        have y1 : ∀ n', (f n').cell? ⟨q, p * 6 + 1, none⟩ = some (.int .i64 m.unit) := fun n' => class_cell hf1 (below_cell HBF.out HNODE2.out.c1) n'
        have y2 : ∀ n', (f n').cell? ⟨q, p * 6 + 2, none⟩ = some (.int .i64 m.depth) := fun n' => class_cell hf1 (below_cell HBF.out HNODE2.out.c2) n'
        have y3 : ∀ n', (f n').cell? ⟨q, p * 6 + 3, none⟩ = some (.string ⟨⟨m.text⟩⟩) := fun n' => class_cell hf1 (below_cell HBF.out HNODE2.out.c3) n'
        have y4 : ∀ n', (f n').cell? ⟨q, p * 6 + 4, none⟩ = some (.bool m.before) := fun n' => class_cell hf1 (below_cell HBF.out HNODE2.out.c4) n'
        have y5 : ∀ n', (f n').cell? ⟨q, p * 6 + 5, none⟩ = some (.bool m.after) := fun n' => class_cell hf1 (below_cell HBF.out HNODE2.out.c5) n'
        have HF1 := Lib.hid hf1
        have HF2 := Lib.hid hf2
        clear hf1 hf2
        refine wp_region_class (f := f) (by kernel_rfl) (by kernel_rfl) HF2.out ?_
        repeat (go_big_quiet_step (first | (go_at_call 41; exact (item_any _ _ _ _ _ _ _).mono fun e w' h => ⟨h.1, class_next HF1.out HF2.out h.2⟩) | (go_at_call 40; exact (HCALL.out _).mono fun e w' h => ⟨h.1, class_next HF1.out HF2.out h.2⟩)))
        refine wpQuiet_nil ?_
        intro w9 hw9
        obtain ⟨nq, hw9⟩ := hw9
        subst hw9
        have hc5 := z5 nq
        clear z0 z1 z2 z3 z4 z5 y0 y1 y2 y3 y4 y5
        have HB9 := Lib.hid (below_then HBF.out (HF1.out nq))
        have HOF := Lib.hid (HOK.out _ HB9.out)
        cases y
        · have HSAME : Hid (setPre false l (i + 1) = setPre false l i) := by
            show _ = _; rw [HS.out, HXX.out, Bool.or_false]
            have e : (setPre false l i)[i]? = some { n with after := n.after } := HN2.out
            obtain ⟨h1, h2⟩ := List.getElem?_eq_some_iff.1 e
            rw [← h2]; exact List.set_getElem_self h1
          go_wp2_with fail
          go_roundg (l.length - (i + 1))
          case measure => omega
          case rel => exact ⟨i + 1, by go_num, by omega, HB.out.trans (HB9.out.mono HB.out.size), by have := HOF.out; rw [hlp] at this; show World.ownsRow _ _ _ _ _ _ _; rw [HSAME.out]; exact this⟩
        · have HST := Lib.hid (row_store (x := true) HOF.out rfl HN2.out)
          have hf5 : (f nq).frozen? ⟨q, i * 6 + 5, none⟩ = false := HOF.out.frozenAt _
          have HSN : Hid (setPre false l (i + 1) = (setPre false l i).set i { n with after := true }) := by
            show _ = _; rw [HS.out, HXX.out, Bool.or_true]
          go_wp2_with fail
          go_roundg (l.length - (i + 1))
          case measure => omega
          case rel => exact ⟨i + 1, by go_num, by omega, (HB.out.trans (HB9.out.mono HB.out.size)).trans HST.out.2, by have := HST.out.1; rw [hlp] at this; show World.ownsRow _ _ _ _ _ _ _; rw [HSN.out]; exact this⟩
    · have hle : (l.length : Int) ≤ (i : Int) := by omega
      have hil : i = l.length := by omega
      go_wp2_with fail
      go_ret
      subst hil
      have := HO.out
      rw [setPre_all] at this
      exact ⟨_, rfl, by rw [setR_len]; exact this, HB.out⟩
end Go.Proofs.YtkfdcbdlcipmfaaGreatFmt
namespace Go.Proofs.YtkfdcbdlcipmfaaGreatFmt
namespace Css
inductive Pc where
  | tok (t : T)
  | close (k : Int)
def pcs : List T → List Pc
  | [] => []
  | .mk k u x b a kids :: ts => .tok (.mk k u x b a kids) :: ((if opens k then pcs kids ++ [.close k] else []) ++ pcs ts)
def FitP (r : Tk × List Int × Bool) : Pc → Prop
  | .tok t => r.1 = tkOf t ∧ IsIt r ⟨t.kind, (t.unit : Int), t.text, -1⟩ ∧ (t.kind = 26 → ∀ c ∈ t.text.take t.unit, c < 128) ∧ ¬ isClose t.kind
  | .close k => r.1 = ⟨closeKind k, 0, []⟩ ∧ r.2.1 = [closer k]
theorem ok1_low {ascii : Bool} {t : T} (h : OK1 ascii t) (h26 : t.kind = 26) : ∀ c ∈ t.text.take t.unit, c < 128 := by
  cases h with
  | name h1 => omega
  | func h1 => omega
  | str h1 => omega
  | num h1 => omega
  | sign h1 => unfold signLike at h1; omega
  | dim h1 hg h2 h3 hl => exact lone_ascii (fun c hc => good_ne hg c (List.mem_of_mem_take hc)) hl (.inl rfl)
theorem ok1_not_close {ascii : Bool} {t : T} (h : OK1 ascii t) : ¬ isClose t.kind := by
  unfold isClose
  cases h with
  | name h1 => omega
  | func h1 => omega
  | str h1 => omega
  | num h1 => omega
  | sign h1 => unfold signLike at h1; omega
  | dim h1 => omega
theorem prints_pcs {ascii : Bool} {ts : List T} {has : Bool} {cl : List Ch} (h : Prints ascii ts has cl) : OKl ascii ts → ∀ sp, All2 FitP (exp cl sp) (pcs ts) := by
  induction h with
  | nil => intro _ sp; simp [exp, pcs]; exact .nil
  | last w hw => intro _ sp; simp [exp, pcs]; exact .nil
  | plain t ts has ws out rest h1 h2 h3 h4 h5 ih =>
    intro hok sp
    cases hok with
    | cons _ _ ht hk hts hadj =>
      obtain ⟨k, u, x, b, a, kids⟩ := t
      have hrest := ih hts false
      have e : exp (ws ++ ⟨some (tkOf (.mk k u x b a kids)), out⟩ :: rest) sp = (tkOf (.mk k u x b a kids), out, sp || has) :: exp rest false := by
        cases has with
        | true => obtain ⟨w, hw, rfl⟩ := h1 rfl; simp [exp]
        | false => rw [h2 rfl]; simp [exp]
      rw [e]
      simp only [pcs]
      rw [if_neg (by exact h3), List.nil_append]
      exact .cons ⟨rfl, isIt_own ht h4 _ _, ok1_low ht, ok1_not_close ht⟩ hrest
  | opened t ts has ws nl out kc rest h1 h2 h3 h4 h5 h6 h7 ih1 ih2 =>
    intro hok sp
    cases hok with
    | cons _ _ ht hk hts hadj =>
      obtain ⟨k, u, x, b, a, kids⟩ := t
      have hrest := ih2 hts false
      have hnl : ∃ sp2, exp (nl ++ (kc ++ ⟨some ⟨closeKind k, 0, []⟩, [closer k]⟩ :: rest)) false = exp kc sp2 ++ (⟨closeKind k, 0, []⟩, [closer k], expSp kc sp2) :: exp rest false := by
        rcases h5 with rfl | ⟨w, hw, rfl⟩
        · exact ⟨false, by rw [List.nil_append, exp_append]; simp [exp]⟩
        · exact ⟨true, by simp only [List.cons_append, List.nil_append, exp]; rw [exp_append]; simp [exp]⟩
      obtain ⟨sp2, hsp2⟩ := hnl
      have hkids := ih1 hk sp2
      have e : exp (ws ++ ⟨some (tkOf (.mk k u x b a kids)), out⟩ :: (nl ++ (kc ++ ⟨some ⟨closeKind k, 0, []⟩, [closer k]⟩ :: rest))) sp = (tkOf (.mk k u x b a kids), out, sp || has) :: (exp kc sp2 ++ (⟨closeKind k, 0, []⟩, [closer k], expSp kc sp2) :: exp rest false) := by
        cases has with
        | true => obtain ⟨w, hw, rfl⟩ := h1 rfl; simp [exp, hsp2]
        | false => rw [h2 rfl]; simp [exp, hsp2]
      show All2 FitP (exp (ws ++ ⟨some (tkOf (.mk k u x b a kids)), out⟩ :: (nl ++ (kc ++ ⟨some ⟨closeKind k, 0, []⟩, [closer k]⟩ :: rest))) sp) _
      rw [e]
      simp only [pcs]
      rw [if_pos (by exact h3)]
      refine .cons ⟨rfl, isIt_own ht h4 _ _, ok1_low ht, ok1_not_close ht⟩ ?_
      rw [List.append_assoc]
      exact hkids.append (.cons ⟨rfl, rfl⟩ hrest)
structure SameTk (r q : Tk × List Int × Bool) : Prop where
  tk : r.1 = q.1
  dim : r.1.kind = 26 → r.1.unit ≤ r.2.1.length ∧ r.1.unit ≤ q.2.1.length ∧ r.2.1.take r.1.unit = q.2.1.take r.1.unit ∧ (∀ c ∈ r.2.1.take r.1.unit, c < 128) ∧ name (r.2.1.drop r.1.unit) = name (q.2.1.drop r.1.unit) ∧ (name (r.2.1.drop r.1.unit)).2 = (false, [])
  rest : ¬ nameLikeK r.1.kind → r.1.kind ≠ 26 → r.2.1 = q.2.1
theorem fitP_same {r q : Tk × List Int × Bool} {p : Pc} (h1 : FitP r p) (h2 : FitP q p) : SameTk r q := by
  cases p with
  | close k =>
    refine ⟨h1.1.trans h2.1.symm, fun h => ?_, fun _ _ => h1.2.trans h2.2.symm⟩
    rw [h1.1] at h
    have := closeKind_close k
    unfold isClose at this
    simp only [] at h; omega
  | tok t =>
    obtain ⟨a1, ⟨b1, b2, b3, b4⟩, c1, n1⟩ := h1
    obtain ⟨a2, ⟨d1, d2, d3, d4⟩, _⟩ := h2
    have e := a1.trans a2.symm
    simp only [] at b1 b2 b3 b4 d1 d2 d3 d4
    refine ⟨e, fun h => ?_, fun h3 h26 => ?_⟩
    · have hk : t.kind = 26 := by rw [← b1]; exact h
      obtain ⟨u1, u2, u3, u4, u5⟩ := b3 hk
      obtain ⟨v1, v2, v3, v4, v5⟩ := d3 hk
      rw [← e] at v1 v2 v3 v4 v5
      have hu : r.1.unit = t.unit := by omega
      refine ⟨u4, v4, u2.trans v2.symm, ?_, u3.trans v3.symm, by rw [u3]⟩
      rw [u2, hu]; exact c1 hk
    · rw [b1] at h3 h26
      unfold nameLikeK at h3
      unfold isClose at n1
      rw [b4 (by omega), d4 (by omega)]
theorem All2.same {α β : Type} {R : α → β → Prop} {S : α → α → Prop} (hS : ∀ x y z, R x z → R y z → S x y) {a b : List α} {c : List β} (h1 : All2 R a c) (h2 : All2 R b c) : All2 S a b := by
  induction h1 generalizing b with
  | nil => cases h2; exact .nil
  | cons h _ ih => cases h2 with | cons h' h2' => exact .cons (hS _ _ _ h h') (ih h2')
end Css
end Go.Proofs.YtkfdcbdlcipmfaaGreatFmt
namespace Go.Proofs.YtkfdcbdlcipmfaaGreatFmt
namespace Css
theorem decl_same {a : Bool} {nm : List Int} {ts : List T} {cl1 cl2 : List Ch} (h1 : Prints a ts (headBefore ts) cl1) (h2 : Prints a ts (headBefore ts) cl2) (k1 : OKl a ts) (hne : nm ≠ []) (g1 : Good a nm) :
    ∃ x y, reads (flat (declCh a nm cl1 false false true [])) false = (x, 0, false) ∧ reads (flat (declCh a nm cl2 false false true [])) false = (y, 0, false) ∧ All2 SameTk x y := by
  refine ⟨_, _, chain_read (decl_chain false false true hne g1 h1 k1 (fun _ => rfl) (by simp) (by simp) (Chain.nil [])), chain_read (decl_chain false false true hne g1 h2 k1 (fun _ => rfl) (by simp) (by simp) (Chain.nil [])), ?_⟩
  unfold declCh
  simp only [exp]
  refine .cons ⟨rfl, fun h => by simp at h, fun h => absurd (by simp [nameLikeK]) h⟩ (.cons ⟨rfl, fun h => by simp at h, fun _ _ => rfl⟩ ?_)
  simp only [wsIf, impCh, ite_true, ite_false, if_true, if_false, List.nil_append, List.append_nil, Bool.false_eq_true, exp_append, exp]
  refine (All2.same (R := FitP) (S := SameTk) (fun _ _ _ h h' => fitP_same h h') (prints_pcs h1 k1 _) (prints_pcs h2 k1 _)).append ?_
  exact .cons ⟨rfl, fun h => by simp at h, fun _ _ => rfl⟩ .nil
end Css
end Go.Proofs.YtkfdcbdlcipmfaaGreatFmt
namespace Go.Proofs.YtkfdcbdlcipmfaaGreatFmt
open Css
theorem ba_ext {a b : ByteArray} (h : a.data.toList = b.data.toList) : a = b := by
  cases a; cases b; congr; exact Array.ext' h
theorem ext_list (s : ByteArray) (a b : Nat) : (s.extract a b).data.toList = (s.data.toList.take b).drop a := by
  rw [ByteArray.data_extract, Array.toList_extract]
  simp only [List.extract_eq_take_drop]
  rw [List.drop_take]
theorem tokens_len (n : Nat) : ∀ ds : List Int, ds.length ≤ n → (tokens ds).1.length ≤ ds.length := by
  induction n with
  | zero =>
    intro ds h
    have : ds = [] := List.length_eq_zero_iff.1 (by omega)
    subst this
    have := reads_nil false
    have h2 : tokens [] = ([], 0, false) := by
      have hc : comments [] = (0, false, []) := comments_none (by simp)
      rw [tokens]; simp [hc]
    rw [h2]; simp
  | succ n ih =>
    intro ds h
    rw [tokens]
    split
    · simp
    · rename_i hd
      have h1 := next_lt hd
      have h2 := comments_len ds
      simp only [List.length_cons]
      have := ih (next (comments ds).2.2).2.2 (by omega)
      omega
theorem Css.All2.len {α β : Type} {R : α → β → Prop} {a : List α} {b : List β} (h : All2 R a b) : a.length = b.length := by
  induction h with
  | nil => rfl
  | cons _ _ ih => simp [ih]
theorem Css.All2.get {α β : Type} {R : α → β → Prop} {a : List α} {b : List β} (h : All2 R a b) : ∀ {i : Nat} {x : α} {y : β}, a[i]? = some x → b[i]? = some y → R x y := by
  induction h with
  | nil => intro i x y h; simp at h
  | cons h _ ih =>
    intro i x y hx hy
    cases i with
    | zero => simp at hx hy; subst hx; subst hy; exact h
    | succ i => exact ih (by simpa using hx) (by simpa using hy)
end Go.Proofs.YtkfdcbdlcipmfaaGreatFmt
namespace Go.Proofs.YtkfdcbdlcipmfaaGreatFmt
open Go.RowKit Css
theorem info64 : (Tryz.prog.info? 64).map (fun i => (i.zero, i.size, i.bytes)) = some (some (.agg #[.int .i64 0, .int .i64 0, .int .i64 0, .int .i64 0, .bool false, .string ⟨#[]⟩, .bool false]), 7, 64) := by kernel_rfl
theorem TkRow.len {s : ByteArray} {l : List (Tk × List Int × List Int)} {xs : List Value} (h : TkRow s l xs) : xs.length = l.length * 6 := by
  induction h with
  | nil => rfl
  | snoc l xs x id h ih => rw [List.length_append, List.length_append, ih]; simp [tkCells]; omega
theorem TkRow.get {s : ByteArray} {l : List (Tk × List Int × List Int)} {xs : List Value} (h : TkRow s l xs) {i : Nat} {x : Tk × List Int × List Int} (hi : l[i]? = some x) : ∃ id, ∀ j y, (tkCells s x id)[j]? = some y → xs[i * 6 + j]? = some y := by
  induction h with
  | nil => simp at hi
  | snoc l xs y id h ih =>
    have hl := h.len
    by_cases hlt : i < l.length
    · rw [List.getElem?_append_left hlt] at hi
      obtain ⟨id', h'⟩ := ih hi
      refine ⟨id', fun j z hz => ?_⟩
      have hj : j < 6 := (List.getElem?_eq_some_iff.1 hz).1
      rw [List.getElem?_append_left (by omega)]
      exact h' j z hz
    · have hlt2 := (List.getElem?_eq_some_iff.1 hi).1
      rw [List.length_append] at hlt2
      simp only [List.length_cons, List.length_nil] at hlt2
      have e : i = l.length := by omega
      subst e
      simp at hi
      subst hi
      refine ⟨id, fun j z hz => ?_⟩
      rw [List.getElem?_append_right (by omega)]
      have e : l.length * 6 + j - xs.length = j := by omega
      rw [e]; exact hz
theorem keep_box {w w9 : World} {O O2 : Obj} {r : Option Nat} (hg : ((w.alloc O).alloc O2).grownBy w9 r) (hne : some w.heap.size ≠ r) : w9.heap[w.heap.size]? = some O := by
  rw [hg.block w.heap.size (by show _ < ((w.heap.push O).push O2).size; simp; omega) hne]
  show ((w.heap.push O).push O2)[w.heap.size]? = _
  rw [Array.getElem?_push, if_neg (by simp), Array.getElem?_push_size]
def rdCells (s : ByteArray) (y : (Tk × List Int × List Int) × Bool) (id : Bool) : List Value := tkCells s y.1 id ++ [.bool y.2]
inductive RdRow (s : ByteArray) : List ((Tk × List Int × List Int) × Bool) → List Value → Prop
  | nil : RdRow s [] []
  | snoc (l : List ((Tk × List Int × List Int) × Bool)) (xs : List Value) (y : (Tk × List Int × List Int) × Bool) (id : Bool) : RdRow s l xs → RdRow s (l ++ [y]) (xs ++ rdCells s y id)
theorem RdRow.len {s : ByteArray} {l : List ((Tk × List Int × List Int) × Bool)} {xs : List Value} (h : RdRow s l xs) : xs.length = l.length * 7 := by
  induction h with
  | nil => rfl
  | snoc l xs x id h ih => rw [List.length_append, List.length_append, ih]; simp [rdCells, tkCells]; omega
theorem RdRow.get {s : ByteArray} {l : List ((Tk × List Int × List Int) × Bool)} {xs : List Value} (h : RdRow s l xs) {i : Nat} {x : (Tk × List Int × List Int) × Bool} (hi : l[i]? = some x) : ∃ id, ∀ j y, (rdCells s x id)[j]? = some y → xs[i * 7 + j]? = some y := by
  induction h with
  | nil => simp at hi
  | snoc l xs y id h ih =>
    have hl := h.len
    by_cases hlt : i < l.length
    · rw [List.getElem?_append_left hlt] at hi
      obtain ⟨id', h'⟩ := ih hi
      refine ⟨id', fun j z hz => ?_⟩
      have hj : j < 7 := (List.getElem?_eq_some_iff.1 hz).1
      rw [List.getElem?_append_left (by omega)]
      exact h' j z hz
    · have hlt2 := (List.getElem?_eq_some_iff.1 hi).1
      rw [List.length_append] at hlt2
      simp only [List.length_cons, List.length_nil] at hlt2
      have e : i = l.length := by omega
      subst e
      simp at hi
      subst hi
      refine ⟨id, fun j z hz => ?_⟩
      rw [List.getElem?_append_right (by omega)]
      have e : l.length * 7 + j - xs.length = j := by omega
      rw [e]; exact hz
theorem rd_one (s : ByteArray) (y : (Tk × List Int × List Int) × Bool) (id : Bool) : ∀ u ∈ (#[Value.int .i64 y.1.1.kind, .int .i64 (pos s y.1.2.1 : Nat), .int .i64 (pos s y.1.2.2 : Nat), .int .i64 (y.1.1.unit : Nat), .bool id, .string (bsOf (enc y.1.1.text)), .bool y.2] : Array Value).toList, u.oneCell' = true := by simp [Value.oneCell']
def RetRd (s : ByteArray) (w : World) (e : Ending) (w' : World) : Prop :=
  ∃ (v : Value) (xs : List Value), e = .returned (.tuple #[v, .bool true]) ∧ w'.ownsRow w.heap.size 64 7 v (rdP (tokens (dec s.data.toList)).1 false).length xs ∧ RdRow s (rdP (tokens (dec s.data.toList)).1 false) xs ∧ Below w.heap.size w w'
set_option maxHeartbeats 3200000 in
set_option maxRecDepth 100000 in
theorem reads_true (s : ByteArray) (hs : (s.size : Int) ≤ 2147483647) (hp : isPlainB s.data.toList = true) (hc : (tokens (dec s.data.toList)).2.1 = 0) (ho : (tokens (dec s.data.toList)).2.2 = false) (hlen : (tokens (dec s.data.toList)).1.length ≤ 2147483647) (w : World) :
    Calls Tryz.prog 31 #[.string s] w (RetRd s w) := by
  have HS := Lib.hid hs
  have HPL : Hid ((s.size : Int) ≤ 140737488355328) := by show _ ≤ _; omega
  have HP := Lib.hid hp
  have HC := Lib.hid hc
  have HO := Lib.hid ho
  have HLEN := Lib.hid hlen
  clear hs hp hc ho hlen
  rename World => w0
  go_enter Tryz.func31, Tryz.ntmps31
  go_wp2_with (go_at_call 43; go_must (refine (plain_any _ HPL.out _).mono ?_; rintro e w' ⟨rfl, rfl⟩; rw [HP.out]))
  refine (tokens_any s HS.out _).mono ?_
  rintro e w1 ⟨out, A, c, xs, rfl, hown, hrow, hb⟩
  rw [HC.out, HO.out]
  generalize htl : (tokens (dec s.data.toList)).1 = tl at hown hrow HLEN
  have HTL := Lib.hid htl
  clear htl
  have HB := Lib.hid hb
  have HROW := Lib.hid hrow
  obtain ⟨Ao, co, hout⟩ := own_slice hown
  subst hout
  have HOWN := Lib.hid hown
  clear hb hown hrow
  have hln := HLEN.out
  go_wp2_with fail
  go_loopg [7, 8, 22] tl.length (fun k p7 p8 p22 wr => ∃ (i : Nat) (acc : List ((Tk × List Int × List Int) × Bool)) (sp : Bool), p22 = .int .i64 i ∧ i + k = tl.length ∧ p8 = .bool sp ∧ acc.length ≤ i ∧ Hid (Below w1.heap.size w1 wr) ∧ Hid (acc ++ rdP (tl.drop i) sp = rdP tl false) ∧ Hid (∃ ys, wr.ownsRow w1.heap.size 64 7 p7 acc.length ys ∧ RdRow s acc ys))
  case atStart => exact ⟨0, [], false, rfl, by omega, rfl, by simp, Below.refl _ _, rfl, [], World.ownsRow_nil _ _ _ _, .nil⟩
  case round =>
    obtain ⟨i, acc, sp, rfl, hik, rfl, hacc, HB1, HQ, HR⟩ := hrel
    have hi0 : (0 : Int) ≤ (i : Int) := by omega
    have hi1 : (i : Int) ≤ 2147483647 := by omega
    by_cases hlt : i < tl.length
    · have hlti : (i : Int) < (tl.length : Int) := by omega
      obtain ⟨x, hx⟩ : ∃ x, tl[i]? = some x := ⟨tl[i], List.getElem?_eq_getElem hlt⟩
      have hdrop : tl.drop i = x :: tl.drop (i + 1) := by
        obtain ⟨h1, e⟩ := List.getElem?_eq_some_iff.1 hx
        rw [← e]; exact List.drop_eq_getElem_cons h1
      obtain ⟨id, hcells⟩ := HROW.out.get hx
      obtain ⟨q, cap, hv, _, _⟩ := HOWN.out.form (by omega)
      have hA : Ao = some ⟨q, 0, none⟩ := by injection hv
      subst hA
      have hq : q < w1.heap.size := (own_lt HOWN.out rfl).1
      have hcc : ∀ j y, (tkCells s x id)[j]? = some y → wr.cell? ⟨q, i * 6 + j, none⟩ = some y := fun j y hy => by
        have h1 := HOWN.out.cells (g := q) rfl _ y (hcells j y hy)
        rw [addr_add0] at h1
        rw [World.cell?_of_block (w := w1) (a := ⟨q, i * 6 + j, none⟩) (HB1.out.block q hq)]; exact h1
      have hc0 : wr.cell? ⟨q, i * 6, none⟩ = some (.int .i64 x.1.kind) := hcc 0 _ rfl
      have hc1 : wr.cell? ⟨q, i * 6 + 1, none⟩ = some (.int .i64 (pos s x.2.1 : Nat)) := hcc 1 _ rfl
      have hc2 : wr.cell? ⟨q, i * 6 + 2, none⟩ = some (.int .i64 (pos s x.2.2 : Nat)) := hcc 2 _ rfl
      have hc3 : wr.cell? ⟨q, i * 6 + 3, none⟩ = some (.int .i64 (x.1.unit : Nat)) := hcc 3 _ rfl
      have hc4 : wr.cell? ⟨q, i * 6 + 4, none⟩ = some (.bool id) := hcc 4 _ rfl
      have hc5 : wr.cell? ⟨q, i * 6 + 5, none⟩ = some (.string (bsOf (enc x.1.text))) := hcc 5 _ rfl
      obtain ⟨ys, hy1, hy2⟩ := HR.out
      have HB2 := Lib.hid (HB1.out.alloc HB1.out.size (.cells #[.int .i64 x.1.kind, .int .i64 (pos s x.2.1 : Nat), .int .i64 (pos s x.2.2 : Nat), .int .i64 (x.1.unit : Nat), .bool id, .string (bsOf (enc x.1.text))] 62))
      have HY1 := Lib.hid (hy1.alloc (.cells #[.int .i64 x.1.kind, .int .i64 (pos s x.2.1 : Nat), .int .i64 (pos s x.2.2 : Nat), .int .i64 (x.1.unit : Nat), .bool id, .string (bsOf (enc x.1.text))] 62))
      have HY2 := Lib.hid hy2
      have HNE : Hid (some wr.heap.size ≠ u7.ownBlock) := by
        intro e
        have := (own_lt hy1 e.symm).1
        omega
      cases hk : (x.1.kind == 38)
      · have hk' : x.1.kind ≠ 38 := by simpa using hk
        have HQ2 : Hid ((acc ++ [(x, sp)]) ++ rdP (tl.drop (i + 1)) false = rdP tl false) := by
          show _ = _; rw [← HQ.out, hdrop]; simp [rdP, hk']
        have hsize : acc.length ≤ 2147483647 := by omega
        clear hdrop hcells hcc hy1 hy2 HQ hv hx HR
        go_wp2_with (at_builtin; go_must (refine wpList_app1 rfl _ _ 58 64 rfl Tryz.underlying58 info64 rfl (by decide) HY1.out HB2.out.size #[.int .i64 x.1.kind, .int .i64 (pos s x.2.1 : Nat), .int .i64 (pos s x.2.2 : Nat), .int .i64 (x.1.unit : Nat), .bool id, .string (bsOf (enc x.1.text)), .bool sp] rfl (rd_one s (x, sp) id) (by omega) (by unfold maxLen; omega) rfl (wr.heap.size + 1) (by simp) rfl ?_; intro v' w9 hw9 hg9 hb9 _; have HW9 := Lib.hid hw9; have HB9 := Lib.hid hb9; have k0 := cell_blk (keep_box hg9 HNE.out) 0; clear hw9 hg9 hb9))
        go_roundg (tl.length - (i + 1))
        case measure => omega
        case rel => exact ⟨i + 1, acc ++ [(x, sp)], false, by go_num, by omega, rfl, by rw [List.length_append]; simp; omega, HB2.out.trans HB9.out, HQ2.out, _, by rw [List.length_append]; exact HW9.out, .snoc _ _ (x, sp) id HY2.out⟩
      · have hk' : x.1.kind = 38 := by simpa using hk
        have HQ2 : Hid (acc ++ rdP (tl.drop (i + 1)) true = rdP tl false) := by
          show _ = _; rw [← HQ.out, hdrop]; simp [rdP, hk']
        clear hk' hdrop hcells hcc hy1 hy2 HQ hv hx HR
        go_wp2_with fail
        go_roundg (tl.length - (i + 1))
        case measure => omega
        case rel => exact ⟨i + 1, acc, true, by go_num, by omega, rfl, by omega, HB2.out, HQ2.out, ys, HY1.out, HY2.out⟩
    · have hle : (tl.length : Int) ≤ (i : Int) := by omega
      have hil : i = tl.length := by omega
      have HF : Hid (acc = rdP tl false) := by
        show _ = _; rw [← HQ.out, hil, List.drop_length]; simp [rdP]
      go_wp2_with fail
      go_ret2
      obtain ⟨ys, hy1, hy2⟩ := HR.out
      rw [HF.out] at hy1 hy2
      unfold RetRd
      rw [HTL.out]
      exact ⟨u7, ys, rfl, own_base HB.out.size hy1, hy2, below_then HB.out HB1.out⟩
end Go.Proofs.YtkfdcbdlcipmfaaGreatFmt
