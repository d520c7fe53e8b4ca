/- Walks: the reference: the items of nodes: the walk. -/
import Derived.Test.YtkfdcbdlcipmfaaGreatFmtH36
set_option linter.unusedVariables false
set_option linter.unusedSimpArgs false
namespace Go.Proofs.YtkfdcbdlcipmfaaGreatFmt
open Go.RowKit Css Go.Maps
def RetIt (l : List RIt) (w : World) (e : Ending) (w' : World) : Prop := ∃ v, e = .returned v ∧ w'.ownsRow w.heap.size 34 4 v l.length (iRow l) ∧ Below w.heap.size w w'
theorem closeR_one (k : Int) : ∀ u ∈ (#[Value.int .i64 k, .int .i64 0, .string ⟨#[]⟩, .int .i64 (-1)] : Array Value).toList, u.oneCell' = true := by simp [Value.oneCell']
theorem kind_one (k : Int) : ∀ u ∈ (#[Value.int .i64 k] : Array Value).toList, u.oneCell' = true := by simp [Value.oneCell']
theorem item_one (k u sp : Int) (t : ByteArray) : ∀ y ∈ (#[Value.int .i64 k, .int .i64 u, .string t, .int .i64 sp] : Array Value).toList, y.oneCell' = true := by simp [Value.oneCell']
set_option maxHeartbeats 6400000 in
set_option maxRecDepth 100000 in
theorem items_any (v : Value) (l : List RN) (hl : l.length ≤ 1000) (hd : ∀ n ∈ l, 0 ≤ n.depth ∧ n.depth ≤ 1000) (w : World) (h : NodesAt v l w) : Calls Tryz.prog 15 #[v] w (RetIt (itemsR l) w) := by
  obtain ⟨A, c, rfl⟩ := h.slice
  have HN := Lib.hid h
  have HD := Lib.hid hd
  have hmm := @run_makeMap Tryz.prog
  rename World => w0
  have hb5 := BM.made Tryz.prog 3 4 w0
  have hb6 : BM Tryz.prog 3 4 (w0.heap.size + 1) 0 (fun _ => false) ((w0.alloc (.map #[] 0)).alloc (.map #[] 0)) := by
    have := BM.made Tryz.prog 3 4 (w0.alloc (.map #[] 0))
    have e : (w0.alloc (.map #[] 0)).heap.size = w0.heap.size + 1 := by simp
    rw [e] at this; exact this
  obtain ⟨w1, hrun1, hm6, hg1⟩ := hb6.put_run (t := 55) Tryz.underlying3 Tryz.underlying55 Tryz.underlying4 (by unfold maxLen; omega) 0 (by decide) true
  have hb5' : BM Tryz.prog 3 4 w0.heap.size 0 (fun _ => false) ((w0.alloc (.map #[] 0)).alloc (.map #[] 0)) := hb5.same (Below.heap_alloc _ _ _ hb5.lt)
  have hm5 := hb5'.kept hg1 (by simp)
  have HB1 : Hid (Below w0.heap.size w0 w1) := (((Below.refl _ _).alloc (Nat.le_refl _) _).alloc (by simp) _).grown hg1 (by simp; omega) (by intro k hk; injection hk with hk; omega)
  have hfr : upd (fun _ => false) 0 true = fun i => decide (i = 0) := by
    funext i; unfold upd; by_cases hi : i = 0 <;> simp [hi]
  rw [hfr] at hm6
  have HIS : Hid (IS w0.heap.size w0.heap.size (w0.heap.size + 1) 1 1 [] [] (fun _ => false) (fun i => decide (i = 0)) (.slice none 0 0) (.slice none 0 0) w1) :=
    ⟨World.ownsRow_nil _ _ _ _, World.ownsRow_nil _ _ _ _, hm5.ext rfl (by omega), hm6, by omega, by omega⟩
  clear h hd hb5 hb6 hb5' hm5 hm6 hg1 hfr
  go_enter Tryz.func15, Tryz.ntmps15
  go_wp2_with fail
  clear hrun1
  go_loopg [3, 4, 17] l.length (fun k p3 p4 p17 wr => ∃ (i : Nat) (acc : List RIt) (op : List Int) (la fr : Int → Bool), p17 = .int .i64 i ∧ i + k = l.length ∧ op.length ≤ i ∧ Hid (Below w0.heap.size w0 wr) ∧ Hid (acc ++ itemsRGo op la fr (l.drop i) = itemsR l) ∧ Hid (IS w0.heap.size w0.heap.size (w0.heap.size + 1) (i + 1) (2 * i + 1) acc op la fr p3 p4 wr))
  case atStart => exact ⟨0, [], [], _, _, rfl, by omega, by simp, HB1.out, rfl, HIS.out⟩
  case round =>
    obtain ⟨i, acc, op, la, fr, rfl, hik, hop, HB, HQ, HS⟩ := hrel
    obtain ⟨wo, hwo⟩ : ∃ wo, wo = wr := ⟨_, rfl⟩
    subst hwo
    clear HIS HB1
    have hi0 : (0 : Int) ≤ (i : Int) := by omega
    have hi1 : (i : Int) ≤ 1000 := by omega
    have hops : op.length ≤ 1000 := by omega
    by_cases hlt : i < l.length
    · have hlti : (i : Int) < (l.length : Int) := by omega
      obtain ⟨n, hn⟩ : ∃ n, l[i]? = some n := ⟨l[i], List.getElem?_eq_getElem hlt⟩
      have hdrop : l.drop i = n :: l.drop (i + 1) := by
        obtain ⟨h1, e⟩ := List.getElem?_eq_some_iff.1 hn
        rw [← e]; exact List.drop_eq_getElem_cons h1
      obtain ⟨hd0, hd1⟩ := HD.out n (List.mem_of_getElem? hn)
      have HQ2 : Hid (acc ++ ((op.take (op.length - n.depth.toNat)).map closeR ++ ⟨n.kind, n.unit, n.text, spOf (fr n.depth) (la n.depth) n.before⟩ ::
      (if opens n.kind then itemsRGo (closeKind n.kind :: op.drop (op.length - n.depth.toNat)) (upd la n.depth n.after) (upd (upd fr n.depth false) (n.depth + 1) true) (l.drop (i + 1))
       else itemsRGo (op.drop (op.length - n.depth.toNat)) (upd la n.depth n.after) (upd fr n.depth false) (l.drop (i + 1)))) = itemsR l) := by
        show _ = _; rw [← HQ.out, hdrop]; rfl
      have HLEN : Hid (acc.length + (op.length - n.depth.toNat) + 1 ≤ 2000) := by
        have h1 := congrArg List.length HQ2.out
        have h2 := itemsR_len l
        rw [List.length_append, List.length_append, List.length_cons, List.length_map, List.length_take] at h1
        show _ ≤ _
        omega
      obtain ⟨q, rfl, hq, hc⟩ := (HN.out.below HB.out).node hn
      have hc0 := hc.c0
      have hc1 := hc.c1
      have hc2 := hc.c2
      have hc3 := hc.c3
      have hc4 := hc.c4
      have hc5 := hc.c5
      have HB2 := Lib.hid (HB.out.alloc HB.out.size (.cells #[.int .i64 n.kind, .int .i64 n.unit, .int .i64 n.depth, .string ⟨⟨n.text⟩⟩, .bool n.before, .bool n.after] 50))
      have HS2 := Lib.hid (HS.out.alloc (.cells #[.int .i64 n.kind, .int .i64 n.unit, .int .i64 n.depth, .string ⟨⟨n.text⟩⟩, .bool n.before, .bool n.after] 50))
      clear hc hn HQ hdrop HB HS
      go_wp2_with fail
      generalize hPd : op.length - n.depth.toNat = Pp at HLEN HQ2
      have HPD := Lib.hid hPd
      have HNB : Hid ((wo.alloc (.cells #[.int .i64 n.kind, .int .i64 n.unit, .int .i64 n.depth, .string ⟨⟨n.text⟩⟩, .bool n.before, .bool n.after] 50)).heap[wo.heap.size]? = some (.cells #[.int .i64 n.kind, .int .i64 n.unit, .int .i64 n.depth, .string ⟨⟨n.text⟩⟩, .bool n.before, .bool n.after] 50)) := heap_alloc_new wo _
      go_loopg [3, 4] Pp (fun k p3 p4 wj => ∃ j : Nat, j + k = Pp ∧ Hid (Below w0.heap.size w0 wj) ∧ Hid (wj.heap[wo.heap.size]? = some (.cells #[.int .i64 n.kind, .int .i64 n.unit, .int .i64 n.depth, .string ⟨⟨n.text⟩⟩, .bool n.before, .bool n.after] 50)) ∧ Hid (IS w0.heap.size w0.heap.size (w0.heap.size + 1) (i + 1) (2 * i + 1) (acc ++ (op.take j).map closeR) (op.drop j) la fr p3 p4 wj))
      case atStart => exact ⟨0, by omega, HB2.out, HNB.out, by show IS _ _ _ _ _ _ _ _ _ _ _ _; simpa using HS2.out⟩
      case round =>
        obtain ⟨j, hjk, HBj, HNj, HSj⟩ := hrel
        clear HB2 HS2 HNB
        have b0 := cell_blk HNj.out 0
        have b1 := cell_blk HNj.out 1
        have b2 := cell_blk HNj.out 2
        have b3 := cell_blk HNj.out 3
        have b4 := cell_blk HNj.out 4
        have b5 := cell_blk HNj.out 5
        obtain ⟨A4, c4, hv4⟩ := own_slice HSj.out.opn
        have hlj : (op.drop j).length = op.length - j := List.length_drop
        rw [hlj] at hv4
        by_cases hmore : (n.depth : Int) < ((op.length - j : Nat) : Int)
        · have hjp : j < Pp := by omega
          have hjo : j < op.length := by omega
          obtain ⟨k1, hk1⟩ : ∃ k1, op[j]? = some k1 := ⟨op[j], List.getElem?_eq_getElem hjo⟩
          have hdj : op.drop j = k1 :: op.drop (j + 1) := by
            obtain ⟨h1, e⟩ := List.getElem?_eq_some_iff.1 hk1
            rw [← e]; exact List.drop_eq_getElem_cons h1
          have htj : (op.take (j + 1)).map closeR = (op.take j).map closeR ++ [closeR k1] := by
            rw [List.take_add_one, hk1]; simp
          obtain ⟨m, hm⟩ : ∃ m, op.length - j = m + 1 := ⟨op.length - j - 1, by omega⟩
          have hm2 : (op.drop (j + 1)).length = m := by rw [List.length_drop]; omega
          rw [hm] at hv4 hmore
          subst hv4
          have hS1 := HSj.out
          rw [hdj] at hS1
          have hopn := hS1.opn
          rw [opRow_cons, List.length_cons, hm2] at hopn
          obtain ⟨q4, cap4, hv5, _, _⟩ := hopn.form (by omega)
          have hA4 : A4 = some ⟨q4, 0, none⟩ := by injection hv5
          subst hA4
          have hkc : wr.cell? ⟨q4, m, none⟩ = some (.int .i64 k1) := by
            have := hopn.cells (g := q4) rfl m (.int .i64 k1) (by rw [List.getElem?_append_right (by rw [opRow_len, hm2]; exact Nat.le_refl _), opRow_len, hm2, Nat.sub_self]; rfl)
            rw [addr_add0] at this; exact this
          have hcap : (m : Int) ≤ (c4 : Int) := by
            rcases hopn.2 with ⟨h2, _⟩ | ⟨g, cap, cur, hv, hb, hh, hnc, _⟩
            · simp at h2
            · injection hv with e1 e2 e3
              omega
          have hm0 : (0 : Int) ≤ (m : Int) := by omega
          have hm1 : (m : Int) ≤ 1000 := by omega
          have HS1 := Lib.hid hS1
          have HT := Lib.hid htj
          have HM2 := Lib.hid hm2
          have haccl : (acc ++ (op.take j).map closeR).length ≤ 3000 := by
            have := HLEN.out
            rw [List.length_append, List.length_map, List.length_take]; omega
          have HACL := Lib.hid haccl
          have hnb : some wo.heap.size ≠ u3.ownBlock := by
            intro e
            obtain ⟨c1, f1, h1⟩ := (own_lt hS1.out e.symm).2.2
            rw [HNj.out] at h1
            injection h1 with h1
            injection h1 with _ h1 _
            exact absurd h1 (by decide)
          have HNE := Lib.hid hnb
          clear hdj htj hk1 hopn hv5 hS1 hlj hm2 haccl hnb hlt
          go_wp2_with (at_builtin; go_must (refine wpList_app1 rfl _ _ 28 34 rfl Tryz.underlying28 info34 rfl (by decide) HS1.out.out HBj.out.size #[.int .i64 k1, .int .i64 0, .string ⟨#[]⟩, .int .i64 (-1)] rfl (closeR_one k1) (by have := HACL.out; omega) (by have := HACL.out; unfold maxLen; omega) rfl wr.heap.size rfl rfl ?_; intro v' w9 hw9 hg9 hb9 _; have HW9 := Lib.hid hw9; have HG9 := Lib.hid hg9; have HB9 := Lib.hid hb9; clear hw9 hg9 hb9))
          go_roundg (Pp - (j + 1))
          case measure => omega
          case rel =>
            refine ⟨j + 1, by omega, HBj.out.trans HB9.out, ?_, ?_⟩
            · show _ = _
              rw [grown_keep HG9.out (Array.getElem?_eq_some_iff.1 HNj.out).1 HNE.out]; exact HNj.out
            · have h1 := (HS1.out.item (x := closeR k1) HW9.out HG9.out).pop
              rw [HM2.out] at h1
              show IS _ _ _ _ _ _ _ _ _ _ _ _
              rw [HT.out, ← List.append_assoc]
              exact h1
        · have hjp : j = Pp := by omega
          have hle : ((op.length - j : Nat) : Int) ≤ n.depth := by omega
          subst hjp
          subst hv4
          have hop1 : (op.drop j).length ≤ 1000 := by omega
          have hac1 : (acc ++ (op.take j).map closeR).length ≤ 3000 := by
            have := HLEN.out
            rw [List.length_append, List.length_map, List.length_take]; omega
          rw [← hlj] at hle
          generalize hop1e : op.drop j = op1 at *
          generalize hac1e : acc ++ (op.take j).map closeR = acc1 at *
          have HOP1 := Lib.hid hop1e
          have HAC1 := Lib.hid hac1e
          clear hop1e hac1e
          have HWFD : Hid ((Lit.int .i64 n.depth).wf = true) := by show _ = _; exact WalkArith.wf_i64 (by omega)
          have hX : Hid (IS w0.heap.size w0.heap.size (w0.heap.size + 1) (i + 1) (2 * i + 1) acc1 op1 la fr u3 (.slice A4 (op.length - j) c4) (wr.alloc (.cells #[.int .i64 n.kind, .int .i64 n.unit, .string ⟨⟨n.text⟩⟩, .int .i64 0] 34))) := HSj.out.alloc _
          have hbw : ¬ wo.heap.size = wr.heap.size := by have := (Array.getElem?_eq_some_iff.1 HNj.out).1; omega
          have hNX : ∀ sp : Int, (wr.alloc (.cells #[.int .i64 n.kind, .int .i64 n.unit, .string ⟨⟨n.text⟩⟩, .int .i64 sp] 34)).heap[wo.heap.size]? = some (.cells #[.int .i64 n.kind, .int .i64 n.unit, .int .i64 n.depth, .string ⟨⟨n.text⟩⟩, .bool n.before, .bool n.after] 50) := by
            intro sp
            rw [Below.heap_alloc wr _ _ (Array.getElem?_eq_some_iff.1 HNj.out).1]; exact HNj.out
          have x0 : ∀ sp : Int, (wr.alloc (.cells #[.int .i64 n.kind, .int .i64 n.unit, .string ⟨⟨n.text⟩⟩, .int .i64 sp] 34)).cell? ⟨wo.heap.size, 0, none⟩ = some (.int .i64 n.kind) := fun sp => cell_blk (hNX sp) 0
          have x2 : ∀ sp : Int, (wr.alloc (.cells #[.int .i64 n.kind, .int .i64 n.unit, .string ⟨⟨n.text⟩⟩, .int .i64 sp] 34)).cell? ⟨wo.heap.size, 2, none⟩ = some (.int .i64 n.depth) := fun sp => cell_blk (hNX sp) 2
          have x4 : ∀ sp : Int, (wr.alloc (.cells #[.int .i64 n.kind, .int .i64 n.unit, .string ⟨⟨n.text⟩⟩, .int .i64 sp] 34)).cell? ⟨wo.heap.size, 4, none⟩ = some (.bool n.before) := fun sp => cell_blk (hNX sp) 4
          have x5 : ∀ sp : Int, (wr.alloc (.cells #[.int .i64 n.kind, .int .i64 n.unit, .string ⟨⟨n.text⟩⟩, .int .i64 sp] 34)).cell? ⟨wo.heap.size, 5, none⟩ = some (.bool n.after) := fun sp => cell_blk (hNX sp) 5
          clear hNX
          have HSP : Hid (∀ sp : Int, ∃ w2 w3, (Instr.mapUpdate 55 (.map (some (w0.heap.size + 1))) (.int .i64 n.depth) (.bool false)).run Tryz.prog (wr.alloc (.cells #[.int .i64 n.kind, .int .i64 n.unit, .string ⟨⟨n.text⟩⟩, .int .i64 sp] 34)).drew = .ok () w2 ∧ (Instr.mapUpdate 55 (.map (some w0.heap.size)) (.int .i64 n.depth) (.bool n.after)).run Tryz.prog w2 = .ok () w3 ∧
              IS w0.heap.size w0.heap.size (w0.heap.size + 1) (i + 1 + 1) (2 * i + 1 + 1) acc1 op1 (upd la n.depth n.after) (upd fr n.depth false) u3 (.slice A4 (op.length - j) c4) w3 ∧ Below w0.heap.size w0 w3 ∧
              w2.heap[wo.heap.size]? = some (.cells #[.int .i64 n.kind, .int .i64 n.unit, .int .i64 n.depth, .string ⟨⟨n.text⟩⟩, .bool n.before, .bool n.after] 50) ∧ w3.heap[wo.heap.size]? = some (.cells #[.int .i64 n.kind, .int .i64 n.unit, .int .i64 n.depth, .string ⟨⟨n.text⟩⟩, .bool n.before, .bool n.after] 50) ∧ w3.heap[wr.heap.size]? = some (.cells #[.int .i64 n.kind, .int .i64 n.unit, .string ⟨⟨n.text⟩⟩, .int .i64 sp] 34)) := by
            intro sp
            have hx : IS w0.heap.size w0.heap.size (w0.heap.size + 1) (i + 1) (2 * i + 1) acc1 op1 la fr u3 (.slice A4 (op.length - j) c4) (wr.alloc (.cells #[.int .i64 n.kind, .int .i64 n.unit, .string ⟨⟨n.text⟩⟩, .int .i64 sp] 34)).drew := (HSj.out.alloc _).same fun q hq => rfl
            have hb := HBj.out.alloc HBj.out.size (.cells #[.int .i64 n.kind, .int .i64 n.unit, .string ⟨⟨n.text⟩⟩, .int .i64 sp] 34)
            obtain ⟨w2, w3, r2, r3, h3, hb3, _, hk⟩ := hx.marks (by have := hb.size; exact this) (by unfold maxLen; omega) (by unfold maxLen; omega) n.depth HWFD.out n.after
            have hn1 : (wr.alloc (.cells #[.int .i64 n.kind, .int .i64 n.unit, .string ⟨⟨n.text⟩⟩, .int .i64 sp] 34)).drew.heap[wo.heap.size]? = some (.cells #[.int .i64 n.kind, .int .i64 n.unit, .int .i64 n.depth, .string ⟨⟨n.text⟩⟩, .bool n.before, .bool n.after] 50) := by
              show (wr.alloc _).heap[wo.heap.size]? = _
              rw [Below.heap_alloc wr _ _ (Array.getElem?_eq_some_iff.1 HNj.out).1]; exact HNj.out
            have hn2 : (wr.alloc (.cells #[.int .i64 n.kind, .int .i64 n.unit, .string ⟨⟨n.text⟩⟩, .int .i64 sp] 34)).drew.heap[wr.heap.size]? = some (.cells #[.int .i64 n.kind, .int .i64 n.unit, .string ⟨⟨n.text⟩⟩, .int .i64 sp] 34) := heap_alloc_new wr _
            exact ⟨w2, w3, r2, r3, h3, hb.drew.trans hb3, (hk _ _ _ _ hn1).1, (hk _ _ _ _ hn1).2, (hk _ _ _ _ hn2).2⟩
          have hspc : (fr n.depth = true ∧ Hid (spOf (fr n.depth) (la n.depth) n.before = -1)) ∨ (fr n.depth = false ∧ n.before = true ∧ Hid (spOf (fr n.depth) (la n.depth) n.before = 1)) ∨ (fr n.depth = false ∧ n.before = false ∧ la n.depth = true ∧ Hid (spOf (fr n.depth) (la n.depth) n.before = 1)) ∨ (fr n.depth = false ∧ n.before = false ∧ la n.depth = false ∧ Hid (spOf (fr n.depth) (la n.depth) n.before = 0)) := by
            cases h1 : fr n.depth
            · cases h2 : n.before
              · cases h3 : la n.depth
                · exact .inr (.inr (.inr ⟨rfl, rfl, rfl, rfl⟩))
                · exact .inr (.inr (.inl ⟨rfl, rfl, rfl, rfl⟩))
              · exact .inr (.inl ⟨rfl, rfl, rfl⟩)
            · exact .inl ⟨rfl, rfl⟩
          generalize hspe : spOf (fr n.depth) (la n.depth) n.before = spv at hspc HQ2
          obtain ⟨w2, w3, r2, r3, h3, hb3, hn2, hn3, hx3⟩ := HSP.out spv
          have HS3 := Lib.hid h3
          have HB3 := Lib.hid hb3
          have HN3 := Lib.hid hn3
          have HX3 := Lib.hid hx3
          have y2 := cell_blk hn2 2
          have y5 := cell_blk hn2 5
          have t0 := cell_blk hn3 0
          have t2 := cell_blk hn3 2
          have s0 := cell_blk hx3 0
          have s1 := cell_blk hx3 1
          have s2 := cell_blk hx3 2
          have s3 := cell_blk hx3 3
          have k6 := hX.out.m6.look_run n.depth HWFD.out
          have k5 := hX.out.m5.look_run n.depth HWFD.out
          clear h3 hb3 hn2 hn3 hx3 HSP hspe
          have hds : 0 ≤ n.depth + 1 ∧ n.depth + 1 ≤ 1001 := by omega
          have HWD1 : Hid ((Lit.int .i64 (n.depth + 1)).wf = true) := by show _ = _; exact WalkArith.wf_i64 (by omega)
          have HLJ := Lib.hid hlj
          have hac2 : (acc1.length + 1) * 40 ≤ 140737488355328 := by omega
          have hac3 : acc1.length + 1 ≤ maxLen := by unfold maxLen; omega
          have hop2 : (op1.length + 1) * 8 ≤ 140737488355328 := by omega
          have hop3 : op1.length + 1 ≤ maxLen := by unfold maxLen; omega
          cases ho : openQ n.kind
          all_goals
           have HO := Lib.hid ho
           clear ho
           rcases hspc with ⟨f1, HV⟩ | ⟨f1, f2, HV⟩ | ⟨f1, f2, f3, HV⟩ | ⟨f1, f2, f3, HV⟩
          all_goals
            have hv := HV.out
            subst hv
            go_wp2_with fail
            go_region
            all_goals
              go_wp2_with (first
              | (at_builtin; go_must (first
                  | (refine wpList_app1 rfl _ _ 28 34 rfl Tryz.underlying28 info34 rfl (by decide) HS3.out.out HB3.out.size #[.int .i64 n.kind, .int .i64 n.unit, .string ⟨⟨n.text⟩⟩, .int .i64 _] rfl (item_one _ _ _ _) hac2 hac3 rfl w3.heap.size rfl rfl ?_; intro v' w9 hw9 hg9 hb9 _; have HS9 := Lib.hid (HS3.out.item (x := ⟨n.kind, n.unit, n.text, _⟩) hw9 hg9); have HN9 : Hid (w9.heap[wo.heap.size]? = _) := (grown_keep hg9 (Array.getElem?_eq_some_iff.1 HN3.out).1 (HS3.out.not_own HN3.out).1).trans HN3.out; have z0 := cell_blk HN9.out 0; have z2 := cell_blk HN9.out 2; have HB9 := Lib.hid (HB3.out.trans hb9); clear hw9 hg9 hb9)
                  | (refine wpList_app1 rfl _ _ 54 3 rfl Tryz.underlying54 info3 rfl (by decide) HS9.out.opn HB9.out.size #[.int .i64 (closeQ n.kind)] rfl (kind_one _) hop2 hop3 rfl w9.heap.size rfl rfl ?_; intro v2 w10 hw10 hg10 hb10 _; have HS10 := Lib.hid (HS9.out.push (k := closeQ n.kind) hw10 hg10); have HN10 : Hid (w10.heap[wo.heap.size]? = _) := (grown_keep hg10 (Array.getElem?_eq_some_iff.1 HN9.out).1 (HS9.out.not_own HN9.out).2).trans HN9.out; have zz2 := cell_blk HN10.out 2; have HB10 := Lib.hid (HB9.out.trans hb10); clear hw10 hg10 hb10)))
              | (go_at_call 30; go_must (refine (opens_any _ _).mono ?_; rintro e w' ⟨rfl, rfl⟩; rw [HO.out]))
              | (at_mapUpdate; go_must (refine wpList_bm_put _ rfl _ _ _ 55 rfl 3 4 Tryz.underlying3 Tryz.underlying55 Tryz.underlying4 _ _ _ rfl HS10.out.m6 (by unfold maxLen; omega) (n.depth + 1) HWD1.out rfl true rfl ?_; intro w11 hm11 hg11; have HS11 := Lib.hid (HS10.out.put6 hm11 hg11); have HB11 := Lib.hid (HB10.out.grown hg11 HB10.out.size (by intro k hk; injection hk with hk; omega)); clear hm11 hg11)))
              go_roundg (l.length - (i + 1))
              case measure => omega
              case rel =>
                have hq := HQ2.out
                have ho' := HO.out
                unfold openQ at ho'
                have hl1 := HLJ.out
                first
                  | (rw [if_neg (by simpa using ho')] at hq
                     refine ⟨i + 1, _, op1, _, _, by go_num, by omega, by omega, HB9.out, ?_, HS9.out.mono (by omega) (by omega)⟩
                     show _ = _
                     rw [← HAC1.out]
                     simpa [List.append_assoc] using hq)
                  | (rw [if_pos (by simpa using ho')] at hq
                     refine ⟨i + 1, _, _, _, _, by go_num, by omega, ?_, HB11.out, ?_, HS11.out.mono (by omega) (by omega)⟩
                     · rw [List.length_cons]; omega
                     · show _ = _
                       have hcq : closeQ n.kind = closeKind n.kind := by unfold closeQ; rw [if_pos (by simpa using ho')]
                       rw [← HAC1.out, hcq]
                       simpa [List.append_assoc] using hq)
    · have hle : (l.length : Int) ≤ (i : Int) := by omega
      have HQ2 : Hid (acc ++ op.map closeR = itemsR l) := by
        have := HQ.out
        rw [List.drop_eq_nil_of_le (by omega)] at this
        exact this
      have HLEN : Hid (acc.length + op.length ≤ 2000) := by
        have h1 := congrArg List.length HQ2.out
        have h2 := itemsR_len l
        rw [List.length_append, List.length_map] at h1
        show _ ≤ _
        omega
      go_wp2_with fail
      go_loopg [3, 4] op.length (fun k p3 p4 wj => ∃ j : Nat, j + k = op.length ∧ Hid (Below w0.heap.size w0 wj) ∧ Hid (IS w0.heap.size w0.heap.size (w0.heap.size + 1) (i + 1) (2 * i + 1) (acc ++ (op.take j).map closeR) (op.drop j) la fr p3 p4 wj))
      case atStart => exact ⟨0, by omega, HB.out, by show IS _ _ _ _ _ _ _ _ _ _ _ _; simpa using HS.out⟩
      case round =>
        obtain ⟨j, hjk, HBj, HSj⟩ := hrel
        clear HB HS
        obtain ⟨A4, c4, hv4⟩ := own_slice HSj.out.opn
        have hlj : (op.drop j).length = op.length - j := List.length_drop
        rw [hlj] at hv4
        by_cases hmore : j < op.length
        · obtain ⟨k1, hk1⟩ : ∃ k1, op[j]? = some k1 := ⟨op[j], List.getElem?_eq_getElem hmore⟩
          have hdj : op.drop j = k1 :: op.drop (j + 1) := by
            obtain ⟨h1, e⟩ := List.getElem?_eq_some_iff.1 hk1
            rw [← e]; exact List.drop_eq_getElem_cons h1
          have htj : (op.take (j + 1)).map closeR = (op.take j).map closeR ++ [closeR k1] := by
            rw [List.take_add_one, hk1]; simp
          obtain ⟨m, hm⟩ : ∃ m, op.length - j = m + 1 := ⟨op.length - j - 1, by omega⟩
          have hm2 : (op.drop (j + 1)).length = m := by rw [List.length_drop]; omega
          rw [hm] at hv4
          subst hv4
          have hS1 := HSj.out
          rw [hdj] at hS1
          have hopn := hS1.opn
          rw [opRow_cons, List.length_cons, hm2] at hopn
          obtain ⟨q4, cap4, hv5, _, _⟩ := hopn.form (by omega)
          have hA4 : A4 = some ⟨q4, 0, none⟩ := by injection hv5
          subst hA4
          have hkc : wr.cell? ⟨q4, m, none⟩ = some (.int .i64 k1) := by
            have := hopn.cells (g := q4) rfl m (.int .i64 k1) (by rw [List.getElem?_append_right (by rw [opRow_len, hm2]; exact Nat.le_refl _), opRow_len, hm2, Nat.sub_self]; rfl)
            rw [addr_add0] at this; exact this
          have hcap : (m : Int) ≤ (c4 : Int) := by
            rcases hopn.2 with ⟨h2, _⟩ | ⟨g, cap, cur, hv, hb, hh, hnc, _⟩
            · simp at h2
            · injection hv with e1 e2 e3
              omega
          have hm0 : (0 : Int) ≤ (m : Int) := by omega
          have hm1 : (m : Int) ≤ 1000 := by omega
          have HS1 := Lib.hid hS1
          have HT := Lib.hid htj
          have HM2 := Lib.hid hm2
          have haccl : (acc ++ (op.take j).map closeR).length ≤ 3000 := by
            have := HLEN.out
            rw [List.length_append, List.length_map, List.length_take]; omega
          have HACL := Lib.hid haccl
          clear hdj htj hk1 hopn hv5 hS1 hlj hm2 haccl hlt
          go_wp2_with (at_builtin; go_must (refine wpList_app1 rfl _ _ 28 34 rfl Tryz.underlying28 info34 rfl (by decide) HS1.out.out HBj.out.size #[.int .i64 k1, .int .i64 0, .string ⟨#[]⟩, .int .i64 (-1)] rfl (closeR_one k1) (by have := HACL.out; omega) (by have := HACL.out; unfold maxLen; omega) rfl wr.heap.size rfl rfl ?_; intro v' w9 hw9 hg9 hb9 _; have HW9 := Lib.hid hw9; have HG9 := Lib.hid hg9; have HB9 := Lib.hid hb9; clear hw9 hg9 hb9))
          go_roundg (op.length - (j + 1))
          case measure => omega
          case rel =>
            refine ⟨j + 1, by omega, HBj.out.trans HB9.out, ?_⟩
            have h1 := (HS1.out.item (x := closeR k1) HW9.out HG9.out).pop
            rw [HM2.out] at h1
            show IS _ _ _ _ _ _ _ _ _ _ _ _
            rw [HT.out, ← List.append_assoc]
            exact h1
        · have hjp : op.length - j = 0 := by omega
          rw [hjp] at hv4
          subst hv4
          have HF : Hid (acc ++ (op.take j).map closeR = itemsR l) := by
            show _ = _; rw [List.take_of_length_le (by omega)]; exact HQ2.out
          go_wp2_with fail
          go_ret
          have h1 := HSj.out.out
          rw [HF.out] at h1
          exact ⟨_, rfl, h1, HBj.out⟩
end Go.Proofs.YtkfdcbdlcipmfaaGreatFmt
