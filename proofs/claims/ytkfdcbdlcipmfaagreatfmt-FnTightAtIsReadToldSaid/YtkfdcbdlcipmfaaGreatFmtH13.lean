/- Walks: the thin package: the tokens of nodes: the walk. -/
import Derived.Test.YtkfdcbdlcipmfaaGreatFmtH08
import Derived.Test.YtkfdcbdlcipmfaaGreatFmtH12
set_option linter.unusedVariables false
set_option linter.unusedSimpArgs false
namespace Go.Proofs.YtkfdcbdlcipmfaaGreatFmt
open Go.RowKit Css
structure NodesS (v : Value) (l : List RN) (w : World) : Prop where
  form : ∃ A c, v = .slice A l.length c ∧ l.length ≤ c ∧ (l ≠ [] → ∃ q off, A = some ⟨q, off, none⟩ ∧ q < w.heap.size ∧ ∀ i x, (nRow l)[i]? = some x → w.cell? ⟨q, off + i, none⟩ = some x)
theorem NodesS.below {v : Value} {l : List RN} {w w' : World} (h : NodesS v l w) (hb : Below w.heap.size w w') : NodesS v l w' := by
  obtain ⟨A, c, e, hc, hf⟩ := h.form
  refine ⟨A, c, e, hc, fun hl => ?_⟩
  obtain ⟨q, off, hA, hq, hx⟩ := hf hl
  exact ⟨q, off, hA, Nat.lt_of_lt_of_le hq hb.size, fun i x h => by rw [World.cell?_of_block (w := w) (a := ⟨q, off + i, none⟩) (hb.block q hq)]; exact hx i x h⟩
theorem nRow_drop (l : List RN) : ∀ k, nRow (l.drop k) = (nRow l).drop (k * 6) := by
  induction l with
  | nil => intro k; simp [nRow]
  | cons n r ih =>
    intro k
    cases k with
    | zero => simp
    | succ k =>
      rw [List.drop_succ_cons, ih]
      show _ = (nCells n ++ nRow r).drop ((k + 1) * 6)
      have hl : (nCells n).length = 6 := rfl
      have e : (k + 1) * 6 = (nCells n).length + k * 6 := by rw [hl]; omega
      rw [e, ← List.drop_drop, List.drop_left]
theorem tk_opens (k : Int) (h : opens k) : ((k == 27) = true) ∨ ((k == 27) = false ∧ (k == 31) = true) ∨ ((k == 27) = false ∧ (k == 31) = false ∧ (k == 32) = true) ∨ ((k == 27) = false ∧ (k == 31) = false ∧ (k == 32) = false ∧ (k == 33) = true) := by
  unfold opens at h
  simp only [beq_iff_eq, beq_eq_false_iff_ne]
  omega
theorem tk_leaf (k : Int) (h : ¬ opens k) : (k == 27) = false ∧ (k == 31) = false ∧ (k == 32) = false ∧ (k == 33) = false := by
  unfold opens at h
  simp only [beq_eq_false_iff_ne]
  omega
theorem wrap16 {u : Int} (h0 : 0 ≤ u) (h1 : u < 65536) : IntKind.u16.wrap u = u := by
  unfold IntKind.wrap
  simp [IntKind.bits, IntKind.signed]
  omega
theorem Ts.node {B : Nat} {acc : List T} {v v' : Value} {w w' : World} {O : Obj} {n : RN} (hk : NodeK n) {ptr : Value} {xs : List Value} (h1 : w.ownsRow B 105 7 v acc.length xs) (h2 : CtRow w (SB B v w) acc xs) (kids : List T)
    (hkids : opens n.kind → ∃ (p : Nat) (z : Value), ptr = .pointer (some ⟨p, 0, none⟩) ∧ SB B v w p ∧ w.cell? ⟨p, 0, none⟩ = some z ∧ TksAt w (SB B v w) z kids) (hl : ¬ opens n.kind → ptr = .pointer none) {ws : Int} (hws : ws = wsV n.before n.after)
    (hown : w'.ownsRow B 105 7 v' (acc.length + 1) (xs ++ (#[ptr, .string ⟨⟨n.text⟩⟩, .int .i32 0, .int .u32 0, .int .u16 (IntKind.u16.wrap n.unit), .int .u8 n.kind, .int .u8 ws] : Array Value).toList)) (hg : (w.alloc O).grownBy w' v.ownBlock) (hv : v'.ownBlock = v.ownBlock ∨ v'.ownBlock = some (w.heap.size + 1)) :
    Ts B (acc ++ [.mk n.kind n.cp.unit.toNat (dec n.text) n.before n.after kids]) v' w' := by
  refine Ts.more (t := .mk n.kind n.cp.unit.toNat (dec n.text) n.before n.after kids) (u' := IntKind.u16.wrap n.unit) h1 h2 (fun h26 => ?_) hkids hl ?_ hg hv
  · have h26' : n.kind = 26 := h26
    obtain ⟨a, b⟩ := hk.unit h26'
    rw [wrap16 a b]
    show n.unit = (((if n.kind = 26 then n.unit else 0).toNat : Nat) : Int)
    rw [if_pos h26']; omega
  · have e : (#[ptr, .string ⟨⟨n.text⟩⟩, .int .i32 0, .int .u32 0, .int .u16 (IntKind.u16.wrap n.unit), .int .u8 n.kind, .int .u8 ws] : Array Value).toList = ctCells ptr (dec n.text) (IntKind.u16.wrap n.unit) n.kind n.before n.after := by
      unfold ctCells; rw [hk.text, hws]
    rw [e] at hown; exact hown
theorem tk_one (ptr : Value) (hp : ptr.oneCell' = true) (s : ByteArray) (u' k ws : Int) : ∀ u ∈ (#[ptr, .string s, .int .i32 0, .int .u32 0, .int .u16 u', .int .u8 k, .int .u8 ws] : Array Value).toList, u.oneCell' = true := by
  intro u hu
  simp only [List.mem_cons, List.not_mem_nil, or_false] at hu
  rcases hu with rfl | rfl | rfl | rfl | rfl | rfl | rfl
  · exact hp
  all_goals rfl
theorem below_blk {w w' : World} (h : Below w.heap.size w w') {b : Nat} {O : Obj} (hb : w.heap[b]? = some O) : w'.heap[b]? = some O := by
  rw [h.block b (Array.getElem?_eq_some_iff.1 hb).1]; exact hb
theorem below_set {B : Nat} {w : World} {b : Nat} (hb : B ≤ b) (o : Nat) (u : Value) (_h : True) : Below B w (w.setCell ⟨b, o, none⟩ u) := by
  refine ⟨rfl, rfl, rfl, by simp [World.setCell], fun i hi => Below.heap_setCell _ _ _ _ (by simp; omega)⟩
def CutR (d : Int) (l : List RN) (W : World) (p10 p11 : Value) (wx : World) : Prop := ∃ (ts' : List T) (k' p : Nat) (A3 : Option Addr) (c3 : Nat), p10 = .pointer (some ⟨p, 0, none⟩) ∧ p11 = .int .i64 k' ∧ k' ≤ l.length ∧ Hid (Parse d (l.map RN.cp) ts' ((l.drop k').map RN.cp)) ∧ Hid (Below W.heap.size W wx) ∧ Hid (W.heap.size ≤ p ∧ p < wx.heap.size ∧ wx.cell? ⟨p, 0, none⟩ = some (.slice A3 ts'.length c3) ∧ TksAt wx (fun b => W.heap.size ≤ b ∧ b < wx.heap.size) (.slice A3 ts'.length c3) ts')
theorem cut_late {d : Int} {l : List RN} {W w1 : World} {ts' : List T} {k' : Nat} {A3 : Option Addr} {c3 : Nat} (hk : k' ≤ l.length) (hp : Parse d (l.map RN.cp) ts' ((l.drop k').map RN.cp)) (ht : TksAt w1 (fun b => W.drew.heap.size ≤ b ∧ b < w1.heap.size) (.slice A3 ts'.length c3) ts') (hb : Below W.drew.heap.size W.drew w1) :
    CutR d l W (.pointer (some ⟨w1.heap.size, 0, none⟩)) (.int .i64 k') (w1.alloc (.cells #[.slice A3 ts'.length c3] 66)) := by
  have h1 : Below W.heap.size W w1 := (Below.refl _ _).drew.trans hb
  refine ⟨ts', k', w1.heap.size, A3, c3, rfl, rfl, hk, hp, h1.alloc h1.size _, h1.size, by simp, ?_, ?_⟩
  · exact cell_blk (heap_alloc_new w1 (.cells #[.slice A3 ts'.length c3] 66)) 0
  · exact ht.keep fun b hb' => ⟨⟨hb'.1, by have := hb'.2; simp; omega⟩, Below.heap_alloc w1 _ b hb'.2⟩
theorem cut_early {d : Int} {l : List RN} {W w1 : World} {O : Obj} {ts' : List T} {k' : Nat} {A3 : Option Addr} {c3 : Nat} (hk : k' ≤ l.length) (hp : Parse d (l.map RN.cp) ts' ((l.drop k').map RN.cp)) (ht : TksAt w1 (fun b => (W.alloc O).drew.heap.size ≤ b ∧ b < w1.heap.size) (.slice A3 ts'.length c3) ts') (hb : Below (W.alloc O).drew.heap.size (W.alloc O).drew w1) (hO : w1.heap[W.heap.size]? = some (.cells #[.slice none 0 0] 66)) :
    CutR d l W (.pointer (some ⟨W.heap.size, 0, none⟩)) (.int .i64 k') (w1.setCell ⟨W.heap.size, 0, none⟩ (.slice A3 ts'.length c3)) := by
  have hsz : (W.alloc O).drew.heap.size = W.heap.size + 1 := by show (W.alloc O).heap.size = _; simp
  have hlt : W.heap.size < w1.heap.size := (Array.getElem?_eq_some_iff.1 hO).1
  have h0 : Below W.heap.size W (W.alloc O).drew := ((Below.refl _ _).alloc (Nat.le_refl _) O).drew
  have h1 : Below W.heap.size W w1 := h0.trans (hb.mono h0.size)
  refine ⟨ts', k', W.heap.size, A3, c3, rfl, rfl, hk, hp, h1.trans (below_set (Nat.le_refl _) _ _ trivial), Nat.le_refl _, by simp [World.setCell]; exact hlt, ?_, ?_⟩
  · exact World.cell?_setCell_same _ _ _ (cell_blk hO 0)
  · refine ht.keep fun b hb' => ⟨⟨by have := hb'.1; omega, by have := hb'.2; simp [World.setCell]; exact this⟩, Below.heap_setCell _ _ _ _ (by have := hb'.1; simp; omega)⟩
theorem cut_kids {B : Nat} {acc : List T} {v : Value} {wo W wx : World} {p : Nat} {A3 : Option Addr} {c3 : Nat} {ts' : List T} {u : Value} (hT : Ts B acc v wo) (hsz : W.heap.size = wo.heap.size + 2) (hB : B ≤ wo.heap.size) (hb : Below W.heap.size W wx) (h : W.heap.size ≤ p ∧ p < wx.heap.size ∧ wx.cell? ⟨p, 0, none⟩ = some (.slice A3 ts'.length c3) ∧ TksAt wx (fun b => W.heap.size ≤ b ∧ b < wx.heap.size) (.slice A3 ts'.length c3) ts') :
    ∃ (p' : Nat) (z : Value), Value.pointer (some ⟨p, 0, none⟩) = .pointer (some ⟨p', 0, none⟩) ∧ SB B v (wx.setCell ⟨wo.heap.size + 1, 0, none⟩ u) p' ∧ (wx.setCell ⟨wo.heap.size + 1, 0, none⟩ u).cell? ⟨p', 0, none⟩ = some z ∧ TksAt (wx.setCell ⟨wo.heap.size + 1, 0, none⟩ u) (SB B v (wx.setCell ⟨wo.heap.size + 1, 0, none⟩ u)) z ts' := by
  obtain ⟨h1, h2, h3, h4⟩ := h
  obtain ⟨xs, ho, _⟩ := hT.row
  have hsb : ∀ b, W.heap.size ≤ b → b < wx.heap.size → SB B v (wx.setCell ⟨wo.heap.size + 1, 0, none⟩ u) b ∧ (wx.setCell ⟨wo.heap.size + 1, 0, none⟩ u).heap[b]? = wx.heap[b]? := fun b g1 g2 =>
    ⟨⟨by omega, by simp [World.setCell]; exact g2, fun e => by have := (own_lt ho e.symm).1; omega⟩, Below.heap_setCell _ _ _ _ (by simp; omega)⟩
  refine ⟨p, _, rfl, (hsb p h1 h2).1, ?_, h4.keep fun b hb' => hsb b hb'.1 hb'.2⟩
  rw [World.cell?_of_block (w := wx) (a := ⟨p, 0, none⟩) (hsb p h1 h2).2]; exact h3
set_option maxHeartbeats 64000000 in
set_option maxRecDepth 100000 in
theorem tokens_rec (K : Nat) : ∀ (l : List RN) (d : Int) (v : Value) (w : World), l.length < K → l.length ≤ 1000 → 0 ≤ d → d ≤ 1000001 → (∀ n ∈ l, NodeK n) → NodesS v l w → Calls Tryz.prog 33 #[v, .int .i64 d] w (RetT d l w) := by
  induction K with
  | zero => intro l d v w hlK; omega
  | succ K ih =>
  intro l d v w hlK hl hd0 hd1 hk h
  obtain ⟨A, c, hv, hcap, hf⟩ := h.form
  subst hv
  have IH := Lib.hid ih
  have HN := Lib.hid h
  have HK := Lib.hid hk
  have HF := Lib.hid hf
  have HLK := Lib.hid hlK
  rename World => w0
  clear ih h hk hf hlK
  go_enter Tryz.func33, Tryz.ntmps33
  go_wp2_with fail
  go_loopg [6, 7] l.length (fun k p6 p7 wr => ∃ (i : Nat) (acc : List T), p7 = .int .i64 i ∧ i + k = l.length ∧ acc.length ≤ i ∧ Hid (Below w0.heap.size w0 wr) ∧ Hid (Ts w0.heap.size acc p6 wr) ∧ Hid (∀ tsr rest, Parse d ((l.drop i).map RN.cp) tsr rest → Parse d (l.map RN.cp) (acc ++ tsr) rest))
  case atStart => exact ⟨0, [], rfl, by omega, by simp, Below.refl _ _, ⟨[], World.ownsRow_nil _ _ _ _, .nil⟩, fun tsr rest h => h⟩
  case round =>
    obtain ⟨i, acc, rfl, hik, hacc, HB, HT, HP⟩ := hrel
    obtain ⟨wo, hwo⟩ : ∃ wo, wo = wr := ⟨_, rfl⟩
    subst hwo
    have hi0 : (0 : Int) ≤ (i : Int) := by omega
    have hi1 : (i : Int) ≤ 1000 := by omega
    by_cases hlt : i < l.length
    · have hlti : (i : Int) < (l.length : Int) := by omega
      obtain ⟨n, hn⟩ : ∃ n, l[i]? = some n := ⟨l[i], List.getElem?_eq_getElem hlt⟩
      have hdrop : l.drop i = n :: l.drop (i + 1) := by
        obtain ⟨h1, e⟩ := List.getElem?_eq_some_iff.1 hn
        rw [← e]; exact List.drop_eq_getElem_cons h1
      obtain ⟨q, off, hA, hq, hx⟩ := HF.out (by intro e; subst e; simp at hn)
      subst hA
      have hc : NodeC wo q (off + i * 6) n := (NodesO.node hx hn).below (HB.out.block q hq)
      have hc0 := hc.c0
      have hc1 := hc.c1
      have hc2 := hc.c2
      have hc3 := hc.c3
      have hc4 := hc.c4
      have hc5 := hc.c5
      have HX := Lib.hid hx
      have hnk := HK.out n (List.mem_of_getElem? hn)
      have hkk := hnk.kind
      have hnd := hnk.depth
      have HNK := Lib.hid hnk
      have HDR := Lib.hid hdrop
      clear hc hn hx hdrop hnk
      by_cases hdd : d ≤ n.depth
      · have hacc2 : (acc.length + 1) * 40 ≤ 140737488355328 := by omega
        have hacc3 : acc.length + 1 ≤ maxLen := by unfold maxLen; omega
        have HT2 : Hid (∀ O1 O2, Ts w0.heap.size acc u6 ((wo.alloc O1).alloc O2)) := fun O1 O2 => (HT.out.below (box_below _ _)).below (box_below _ _)
        have HBB : Hid (∀ O1 O2, Below w0.heap.size w0 ((wo.alloc O1).alloc O2)) := fun O1 O2 => (HB.out.alloc HB.out.size O1).alloc (HB.out.alloc HB.out.size O1).size O2
        have hi2 : (i : Int) + 1 ≤ (l.length : Int) := by omega
        have hi3 : (l.length : Int) ≤ (c : Int) := by omega
        have hi4 : (0 : Int) ≤ (i : Int) + 1 := by omega
        go_upto_if 39 with (fail)
        go_cut [] (fun wx => wx = (wo.alloc (.cells #[.int .i64 n.kind, .int .i64 n.unit, .int .i64 n.depth, .string ⟨⟨n.text⟩⟩, .bool n.before, .bool n.after] 45)).alloc (.cells #[.pointer none, .string ⟨⟨n.text⟩⟩, .int .i32 0, .int .u32 0, .int .u16 (IntKind.u16.wrap n.unit), .int .u8 n.kind, .int .u8 (if n.before then 1 else 0)] 105))
        case first =>
          cases hb : n.before
          all_goals
            go_wp2_with fail
            go_meet
            rw [hb]
            rfl
        case rest =>
        have hcut1 := hcut
        clear hcut
        subst hcut1
        go_upto_if 45 with (fail)
        go_cut [] (fun wx => wx = (wo.alloc (.cells #[.int .i64 n.kind, .int .i64 n.unit, .int .i64 n.depth, .string ⟨⟨n.text⟩⟩, .bool n.before, .bool n.after] 45)).alloc (.cells #[.pointer none, .string ⟨⟨n.text⟩⟩, .int .i32 0, .int .u32 0, .int .u16 (IntKind.u16.wrap n.unit), .int .u8 n.kind, .int .u8 (wsV n.before n.after)] 105))
        case first =>
          cases hb : n.before
          all_goals
            cases ha : n.after
          all_goals
            go_wp2_with fail
            go_meet
            rw [hb, ha]
            rfl
        case rest =>
        have hcut2 := hcut
        clear hcut
        subst hcut2
        obtain ⟨ws, hws⟩ : ∃ ws, ws = wsV n.before n.after := ⟨_, rfl⟩
        rw [← hws]
        have HWS := Lib.hid hws
        clear hws
        by_cases ho : opens n.kind
        · have HO := Lib.hid ho
          have hkk2 := tk_opens _ ho
          clear ho
          rcases hkk2 with q1 | ⟨q1, q2⟩ | ⟨q1, q2, q3⟩ | ⟨q1, q2, q3, q4⟩
          all_goals
                go_wp2_with fail
                have HWB := Lib.hid (HBB.out (.cells #[.int .i64 n.kind, .int .i64 n.unit, .int .i64 n.depth, .string ⟨⟨n.text⟩⟩, .bool n.before, .bool n.after] 45) (.cells #[.pointer none, .string ⟨⟨n.text⟩⟩, .int .i32 0, .int .u32 0, .int .u16 (IntKind.u16.wrap n.unit), .int .u8 n.kind, .int .u8 ws] 105))
                have h8 : (((wo.alloc (.cells #[.int .i64 n.kind, .int .i64 n.unit, .int .i64 n.depth, .string ⟨⟨n.text⟩⟩, .bool n.before, .bool n.after] 45)).alloc (.cells #[.pointer none, .string ⟨⟨n.text⟩⟩, .int .i32 0, .int .u32 0, .int .u16 (IntKind.u16.wrap n.unit), .int .u8 n.kind, .int .u8 ws] 105))).heap[wo.heap.size]? = some (.cells #[.int .i64 n.kind, .int .i64 n.unit, .int .i64 n.depth, .string ⟨⟨n.text⟩⟩, .bool n.before, .bool n.after] 45) := by
                  rw [Below.heap_alloc _ _ _ (by simp)]; exact heap_alloc_new wo _
                have h9 : (((wo.alloc (.cells #[.int .i64 n.kind, .int .i64 n.unit, .int .i64 n.depth, .string ⟨⟨n.text⟩⟩, .bool n.before, .bool n.after] 45)).alloc (.cells #[.pointer none, .string ⟨⟨n.text⟩⟩, .int .i32 0, .int .u32 0, .int .u16 (IntKind.u16.wrap n.unit), .int .u8 n.kind, .int .u8 ws] 105))).heap[wo.heap.size + 1]? = some (.cells #[.pointer none, .string ⟨⟨n.text⟩⟩, .int .i32 0, .int .u32 0, .int .u16 (IntKind.u16.wrap n.unit), .int .u8 n.kind, .int .u8 ws] 105) := by
                  have e : wo.heap.size + 1 = (wo.alloc (.cells #[.int .i64 n.kind, .int .i64 n.unit, .int .i64 n.depth, .string ⟨⟨n.text⟩⟩, .bool n.before, .bool n.after] 45)).heap.size := by simp
                  rw [e]; exact heap_alloc_new _ _
                have HLOW : Hid (∀ b, b < wo.heap.size → (((wo.alloc (.cells #[.int .i64 n.kind, .int .i64 n.unit, .int .i64 n.depth, .string ⟨⟨n.text⟩⟩, .bool n.before, .bool n.after] 45)).alloc (.cells #[.pointer none, .string ⟨⟨n.text⟩⟩, .int .i32 0, .int .u32 0, .int .u16 (IntKind.u16.wrap n.unit), .int .u8 n.kind, .int .u8 ws] 105))).heap[b]? = wo.heap[b]?) := fun b hb => by
                  rw [Below.heap_alloc _ _ _ (by simp; omega), Below.heap_alloc _ _ _ hb]
                have HSZ : Hid ((((wo.alloc (.cells #[.int .i64 n.kind, .int .i64 n.unit, .int .i64 n.depth, .string ⟨⟨n.text⟩⟩, .bool n.before, .bool n.after] 45)).alloc (.cells #[.pointer none, .string ⟨⟨n.text⟩⟩, .int .i32 0, .int .u32 0, .int .u16 (IntKind.u16.wrap n.unit), .int .u8 n.kind, .int .u8 ws] 105))).heap.size = wo.heap.size + 2) := by show _ = _; simp
                generalize ((wo.alloc (.cells #[.int .i64 n.kind, .int .i64 n.unit, .int .i64 n.depth, .string ⟨⟨n.text⟩⟩, .bool n.before, .bool n.after] 45)).alloc (.cells #[.pointer none, .string ⟨⟨n.text⟩⟩, .int .i32 0, .int .u32 0, .int .u16 (IntKind.u16.wrap n.unit), .int .u8 n.kind, .int .u8 ws] 105)) = W at HWB h8 h9 HLOW HSZ ⊢
                have H9 := Lib.hid h9
                have c82 := cell_blk h8 2
                have c82a : ∀ O, (W.alloc O).cell? ⟨wo.heap.size, 2, none⟩ = some (.int .i64 n.depth) := fun O => cell_blk (below_blk (box_below O W) h8) 2
                obtain ⟨A2, hA2⟩ : ∃ A2, (if c = i + 1 then some (⟨q, off, none⟩ : Addr) else some ⟨q, off + (i + 1) * 6, none⟩) = A2 := ⟨_, rfl⟩
                have hwr : IntKind.i64.wrap (n.depth + 1) = n.depth + 1 := IntWalk.i64_in _ (by omega)
                have HCALL : Hid (∀ Wc, Below W.heap.size W Wc → Calls Tryz.prog 33 #[.slice A2 (l.length - (i + 1)) (c - (i + 1)), .int .i64 (n.depth + 1)] Wc (RetT (n.depth + 1) (l.drop (i + 1)) Wc)) := by
                  intro Wc hWc
                  have hBc : Below w0.heap.size w0 Wc := HWB.out.trans (hWc.mono HWB.out.size)
                  refine IH.out (l.drop (i + 1)) (n.depth + 1) _ _ (by rw [List.length_drop]; have := HLK.out; omega) (by rw [List.length_drop]; omega) (by omega) (by omega) (fun x hx => HK.out x (List.mem_of_mem_drop hx)) ⟨A2, c - (i + 1), by rw [List.length_drop], by rw [List.length_drop]; omega, fun hne => ?_⟩
                  have hlen : i + 1 < l.length := by
                    rcases Nat.lt_or_ge (i + 1) l.length with h | h
                    · exact h
                    · exact absurd (List.drop_eq_nil_of_le h) hne
                  refine ⟨q, off + (i + 1) * 6, by rw [← hA2, if_neg (by omega)], Nat.lt_of_lt_of_le hq hBc.size, fun j x hx => ?_⟩
                  rw [nRow_drop, List.getElem?_drop] at hx
                  rw [World.cell?_of_block (w := w0) (a := ⟨q, off + (i + 1) * 6 + j, none⟩) (hBc.block q hq)]
                  have := HX.out _ x hx
                  rw [← Nat.add_assoc] at this; exact this
                clear h8 h9
                go_cut [10, 11] (fun p10 p11 wx => ∃ (ts' : List T) (k' p : Nat) (A3 : Option Addr) (c3 : Nat), p10 = .pointer (some ⟨p, 0, none⟩) ∧ p11 = .int .i64 k' ∧ k' ≤ (l.drop (i + 1)).length ∧ Hid (Parse (n.depth + 1) ((l.drop (i + 1)).map RN.cp) ts' (((l.drop (i + 1)).drop k').map RN.cp)) ∧ Hid (Below W.heap.size W wx) ∧ Hid (W.heap.size ≤ p ∧ p < wx.heap.size ∧ wx.cell? ⟨p, 0, none⟩ = some (.slice A3 ts'.length c3) ∧ TksAt wx (fun b => W.heap.size ≤ b ∧ b < wx.heap.size) (.slice A3 ts'.length c3) ts'))
                case first =>
                  focus
                    go_region_with ((go_at_call 33; refine (HCALL.out _ (by first | exact (Below.refl _ _).drew | exact ((Below.refl _ _).drew).alloc (Nat.le_refl _) _)).mono ?_; rintro e w1 ⟨ts', k', z, hk', rfl, hp', htk, hb1⟩; obtain ⟨A3, c3, hz, htk3⟩ := htk; subst hz; have htk : TksAt w1 _ (.slice A3 ts'.length c3) ts' := ⟨A3, c3, rfl, htk3⟩; have HK' := Lib.hid hk'; have HP' := Lib.hid hp'; have HTK := Lib.hid htk; have HB1 := Lib.hid hb1; (try (have pb : w1.heap[W.heap.size]? = some (.cells #[.slice none 0 0] 66) := below_blk hb1 (heap_alloc_new W.drew _); have p0 := cell_blk pb 0; have pf := frozen_blk pb 0; have HPB := Lib.hid pb; clear pb)); clear hk' hp' htk hb1))
                    all_goals
                      go_wp2_with fail
                      go_meet
                      first
                        | exact cut_late HK'.out HP'.out HTK.out HB1.out
                        | exact cut_early HK'.out HP'.out HTK.out HB1.out HPB.out
                case rest =>
                  focus
                    clear hwr hA2 c82 c82a
                    obtain ⟨ts', k', p, A3, c3, rfl, rfl, hk', HP', HBX, HPX⟩ := hcut
                    rw [List.length_drop] at hk'
                    have h9 := below_blk HBX.out H9.out
                    have t0 := cell_blk h9 0
                    have t1 := cell_blk h9 1
                    have t2 := cell_blk h9 2
                    have t3 := cell_blk h9 3
                    have t4 := cell_blk h9 4
                    have t5 := cell_blk h9 5
                    have t6 := cell_blk h9 6
                    have f0 := frozen_blk h9 0
                    have hk0 : (0 : Int) ≤ (k' : Int) := by omega
                    have hk1 : (k' : Int) ≤ 1000 := by omega
                    have HLOW2 : Hid (∀ b, b < wo.heap.size → (wc.setCell ⟨wo.heap.size + 1, 0, none⟩ (.pointer (some ⟨p, 0, none⟩))).heap[b]? = wo.heap[b]?) := fun b hb => by
                      rw [Below.heap_setCell _ _ _ _ (by simp; omega), HBX.out.block b (by have := HSZ.out; omega)]; exact HLOW.out b hb
                    have HTX := Lib.hid (HT.out.keep (w' := wc.setCell ⟨wo.heap.size + 1, 0, none⟩ (.pointer (some ⟨p, 0, none⟩))) (by have h1 := HBX.out.size; have h2 := HSZ.out; simp [World.setCell]; omega) HLOW2.out)
                    have HBF : Hid (Below w0.heap.size w0 (wc.setCell ⟨wo.heap.size + 1, 0, none⟩ (.pointer (some ⟨p, 0, none⟩)))) := by
                      have h1 := HWB.out.trans (HBX.out.mono HWB.out.size)
                      exact h1.trans (below_set (by have := HB.out.size; omega) _ _ trivial)
                    clear h9
                    go_upto_region 19 with (fail)
                    have s0 : (wc.setCell ⟨wo.heap.size + 1, 0, none⟩ (.pointer (some ⟨p, 0, none⟩))).cell? ⟨wo.heap.size + 1, 0, none⟩ = some (.pointer (some ⟨p, 0, none⟩)) := World.cell?_setCell_same _ _ _ t0
                    have s1 : (wc.setCell ⟨wo.heap.size + 1, 0, none⟩ (.pointer (some ⟨p, 0, none⟩))).cell? ⟨wo.heap.size + 1, 1, none⟩ = some (.string ⟨⟨n.text⟩⟩) := (World.cell?_setCell_other _ _ _ _ (by intro e; injection e with _ e2; omega)).trans t1
                    have s2 : (wc.setCell ⟨wo.heap.size + 1, 0, none⟩ (.pointer (some ⟨p, 0, none⟩))).cell? ⟨wo.heap.size + 1, 2, none⟩ = some (.int .i32 0) := (World.cell?_setCell_other _ _ _ _ (by intro e; injection e with _ e2; omega)).trans t2
                    have s3 : (wc.setCell ⟨wo.heap.size + 1, 0, none⟩ (.pointer (some ⟨p, 0, none⟩))).cell? ⟨wo.heap.size + 1, 3, none⟩ = some (.int .u32 0) := (World.cell?_setCell_other _ _ _ _ (by intro e; injection e with _ e2; omega)).trans t3
                    have s4 : (wc.setCell ⟨wo.heap.size + 1, 0, none⟩ (.pointer (some ⟨p, 0, none⟩))).cell? ⟨wo.heap.size + 1, 4, none⟩ = some (.int .u16 (IntKind.u16.wrap n.unit)) := (World.cell?_setCell_other _ _ _ _ (by intro e; injection e with _ e2; omega)).trans t4
                    have s5 : (wc.setCell ⟨wo.heap.size + 1, 0, none⟩ (.pointer (some ⟨p, 0, none⟩))).cell? ⟨wo.heap.size + 1, 5, none⟩ = some (.int .u8 n.kind) := (World.cell?_setCell_other _ _ _ _ (by intro e; injection e with _ e2; omega)).trans t5
                    have s6 : (wc.setCell ⟨wo.heap.size + 1, 0, none⟩ (.pointer (some ⟨p, 0, none⟩))).cell? ⟨wo.heap.size + 1, 6, none⟩ = some (.int .u8 ws) := (World.cell?_setCell_other _ _ _ _ (by intro e; injection e with _ e2; omega)).trans t6
                    have HWS2 : Hid ((wc.setCell ⟨wo.heap.size + 1, 0, none⟩ (.pointer (some ⟨p, 0, none⟩))).heap.size = wc.heap.size) := by show _ = _; simp [World.setCell]
                    have HCK := Lib.hid (cut_kids (u := .pointer (some ⟨p, 0, none⟩)) HT.out HSZ.out HB.out.size HBX.out HPX.out)
                    generalize (wc.setCell ⟨wo.heap.size + 1, 0, none⟩ (.pointer (some ⟨p, 0, none⟩))) = Ws at HTX HBF s0 s1 s2 s3 s4 s5 s6 HWS2 HCK ⊢
                    generalize hu : IntKind.u16.wrap n.unit = uw at s4
                    have HU := Lib.hid hu
                    clear hu H9 t0 t1 t2 t3 t4 t5 t6 f0 HLOW2 q1 hc0 hc1 hc2 hc3 hc4 hc5 HF
                    go_wp2_with (at_builtin; go_must (obtain ⟨xs, hr1, hr2⟩ := HTX.out.row; refine wpList_app1 rfl _ _ 66 105 rfl Tryz.underlying66 info105 rfl (by decide) hr1 HBF.out.size #[.pointer (some ⟨p, 0, none⟩), .string ⟨⟨n.text⟩⟩, .int .i32 0, .int .u32 0, .int .u16 uw, .int .u8 n.kind, .int .u8 ws] rfl (tk_one _ rfl _ _ _ _) hacc2 hacc3 rfl Ws.heap.size rfl rfl ?_; intro v' w9 hw9 hg9 hb9 hv9; have HW9 := Lib.hid hw9; have HG9 := Lib.hid hg9; have HB9 := Lib.hid hb9; have HV9 := Lib.hid hv9; have HR1 := Lib.hid hr1; have HR2 := Lib.hid hr2; clear hw9 hg9 hb9 hv9 hr1 hr2))
                    go_roundg (l.length - (i + 1 + k'))
                    case measure => omega
                    case rel =>
                      refine ⟨i + 1 + k', acc ++ [.mk n.kind n.cp.unit.toNat (dec n.text) n.before n.after ts'], by go_num, by omega, by rw [List.length_append]; simp; omega, HBF.out.trans HB9.out, ?_, ?_⟩
                      · have hw9' := HW9.out
                        rw [← HU.out] at hw9'
                        refine Ts.node HNK.out HR1.out HR2.out ts' (fun _ => ?_) (fun hno => absurd HO.out hno) HWS.out hw9' HG9.out HV9.out
                        exact HCK.out
                      · intro tsr rest hp
                        rw [← List.drop_drop] at hp
                        have := HP.out (.mk n.kind n.cp.unit.toNat (dec n.text) n.before n.after ts' :: tsr) rest (by rw [HDR.out]; exact .node d n.cp _ _ _ _ _ (by show ¬ n.depth < d; omega) HO.out HP'.out hp)
                        rw [List.append_assoc]; exact this
        · obtain ⟨q1, q2, q3, q4⟩ := tk_leaf _ ho
          have HO := Lib.hid ho
          clear ho
          · 
            go_wp2_with (at_builtin; go_must (obtain ⟨xs, hr1, hr2⟩ := (HT2.out _ _).row; refine wpList_app1 rfl _ _ 66 105 rfl Tryz.underlying66 info105 rfl (by decide) hr1 (HBB.out _ _).size #[.pointer none, .string ⟨⟨n.text⟩⟩, .int .i32 0, .int .u32 0, .int .u16 (IntKind.u16.wrap n.unit), .int .u8 n.kind, .int .u8 ws] rfl (tk_one _ rfl _ _ _ _) hacc2 hacc3 rfl (wo.heap.size + 2) (by simp) rfl ?_; intro v' w9 hw9 hg9 hb9 hv9; have HW9 := Lib.hid hw9; have HG9 := Lib.hid hg9; have HB9 := Lib.hid hb9; have HV9 := Lib.hid hv9; have HR1 := Lib.hid hr1; have HR2 := Lib.hid hr2; clear hw9 hg9 hb9 hv9 hr1 hr2))
            go_roundg (l.length - (i + 1))
            case measure => omega
            case rel =>
              refine ⟨i + 1, acc ++ [.mk n.kind n.cp.unit.toNat (dec n.text) n.before n.after []], by go_num, by omega, by rw [List.length_append]; simp; omega, (HBB.out _ _).trans HB9.out, ?_, ?_⟩
              · exact Ts.node HNK.out HR1.out HR2.out [] (fun ho => absurd ho HO.out) (fun _ => rfl) HWS.out HW9.out HG9.out HV9.out
              · intro tsr rest hp
                have := HP.out (.mk n.kind n.cp.unit.toNat (dec n.text) n.before n.after [] :: tsr) rest (by rw [HDR.out]; exact .leaf d n.cp _ _ _ (by show ¬ n.depth < d; omega) HO.out hp)
                rw [List.append_assoc]; exact this
      · have hdd' : n.depth < d := by omega
        go_wp2_with fail
        go_ret2
        exact ⟨acc, i, u6, by omega, rfl, by have := HP.out [] _ (by rw [HDR.out]; exact .stop d n.cp _ hdd'); rw [List.append_nil] at this; rw [HDR.out]; exact this, HT.out.at, HB.out⟩
    · have hle : (l.length : Int) ≤ (i : Int) := by omega
      have hil : l.drop i = [] := List.drop_eq_nil_of_le (by omega)
      go_wp2_with fail
      go_ret2
      exact ⟨acc, i, u6, by omega, rfl, by have := HP.out [] [] (by rw [hil]; exact .nil d); rw [List.append_nil] at this; rw [hil]; exact this, HT.out.at, HB.out⟩
end Go.Proofs.YtkfdcbdlcipmfaaGreatFmt
