/- Walks: printTokens, as a prelude is printed. -/
import Derived.Test.YtkfdcbdlcipmfaaGreatFmtH14
import Derived.Test.YtkfdcbdlcipmfaaGreatFmtH15
import Derived.Test.YtkfdcbdlcipmfaaGreatFmtH17
import Derived.Test.YtkfdcbdlcipmfaaGreatFmtH18
set_option linter.unusedVariables false
set_option linter.unusedSimpArgs false
namespace Go.Proofs.YtkfdcbdlcipmfaaGreatFmt
open Go.RowKit Css
variable {F : Go.Stop.Interp} {W0 : World}
theorem ws_ff : wsV false false = 0 := rfl
theorem ws_ft : wsV false true = 2 := rfl
theorem ws_tf : wsV true false = 1 := rfl
theorem ws_tt : wsV true true = 3 := rfl
theorem blank1 : Blank [32] := ⟨by simp, by simp⟩
theorem wsOk_no : WsOk false [] := ⟨fun h => (by cases h), fun _ => rfl, by simp [enc]⟩
theorem wsOk_sp : WsOk true [⟨none, [32]⟩] := ⟨fun _ => ⟨[32], blank1, rfl⟩, fun h => (by cases h), by decide⟩
theorem opens_bools (k : Int) (h : opens k) : ((k == 27) = true) ∨ ((k == 27) = false ∧ (k == 33) = true) ∨ ((k == 27) = false ∧ (k == 33) = false ∧ (k == 31) = true) ∨ ((k == 27) = false ∧ (k == 33) = false ∧ (k == 31) = false ∧ (k == 32) = true) := by
  unfold opens at h
  simp only [beq_iff_eq, beq_eq_false_iff_ne]
  omega
theorem kind_ways (k : Int) (h : k = 29 ∨ k = 27 ∨ k = 26 ∨ k = 1 ∨ k = 28 ∨ k = 36 ∨ ((k == 29) = false ∧ (k == 39) = false ∧ (k == 27) = false ∧ (k == 26) = false ∧ (k == 1) = false ∧ (k == 28) = false ∧ (k == 36) = false ∧ (k == 37) = false ∧ (k == 2) = false)) :
    ((k == 29) = true ∧ Hid (k = 29)) ∨ ((k == 29) = false ∧ (k == 39) = false ∧ (k == 27) = true ∧ Hid (k = 27)) ∨ ((k == 29) = false ∧ (k == 39) = false ∧ (k == 27) = false ∧ (k == 26) = true ∧ Hid (k = 26))
    ∨ ((k == 29) = false ∧ (k == 39) = false ∧ (k == 27) = false ∧ (k == 26) = false ∧ (k == 1) = true ∧ Hid (k = 1)) ∨ ((k == 29) = false ∧ (k == 39) = false ∧ (k == 27) = false ∧ (k == 26) = false ∧ (k == 1) = false ∧ (k == 28) = true ∧ Hid (k = 28))
    ∨ ((k == 29) = false ∧ (k == 39) = false ∧ (k == 27) = false ∧ (k == 26) = false ∧ (k == 1) = false ∧ (k == 28) = false ∧ (k == 36) = true ∧ Hid (k = 36))
    ∨ (((k == 29) = false ∧ (k == 39) = false ∧ (k == 27) = false ∧ (k == 26) = false ∧ (k == 1) = false ∧ (k == 28) = false ∧ (k == 36) = false ∧ (k == 37) = false ∧ (k == 2) = false) ∧ Hid (k ≠ 29 ∧ k ≠ 27 ∧ k ≠ 26 ∧ k ≠ 1 ∧ k ≠ 28 ∧ k ≠ 36)) := by
  unfold Hid
  rcases h with rfl | rfl | rfl | rfl | rfl | rfl | h
  · exact .inl ⟨rfl, rfl⟩
  · exact .inr (.inl ⟨rfl, rfl, rfl, rfl⟩)
  · exact .inr (.inr (.inl ⟨rfl, rfl, rfl, rfl, rfl⟩))
  · exact .inr (.inr (.inr (.inl ⟨rfl, rfl, rfl, rfl, rfl, rfl⟩)))
  · exact .inr (.inr (.inr (.inr (.inl ⟨rfl, rfl, rfl, rfl, rfl, rfl, rfl⟩))))
  · exact .inr (.inr (.inr (.inr (.inr (.inl ⟨rfl, rfl, rfl, rfl, rfl, rfl, rfl, rfl⟩)))))
  · refine .inr (.inr (.inr (.inr (.inr (.inr ⟨h, ?_⟩)))))
    simp only [beq_eq_false_iff_ne] at h
    omega
theorem tks_keep {B g : Nat} {w w' : World} (h : Ke B g w w') {v : Value} {ts : List T} (ht : TksAt w (fun b => b < B) v ts) : TksAt w' (fun b => b < B) v ts := ht.keep fun b hb => ⟨hb, h.low b hb⟩
theorem drop_head {ts : List T} {i : Nat} (h : i < ts.length) : ∃ t, ts[i]? = some t ∧ headBefore (ts.drop i) = t.before ∧ ts.drop i = t :: ts.drop (i + 1) := by
  refine ⟨ts[i], List.getElem?_eq_getElem h, ?_, List.drop_eq_getElem_cons h⟩
  rw [List.drop_eq_getElem_cons h]; rfl
theorem enc_q {q : Int} (hq : q = 34 ∨ q = 39) {out : List Int} {n : Nat} (h : (enc out).length ≤ 16 * n) : (enc (q :: (out ++ [q]))).length ≤ 16 * n + 8 := by
  rw [enc_length_cons, enc_append, List.length_append, enc_length_cons]
  have : wd q ≤ 4 := by unfold wd; (repeat' split) <;> omega
  have e : (enc ([] : List Int)).length = 0 := rfl
  omega
theorem blk_below {w w' : World} (h : Below w.heap.size w w') {b : Nat} {O : Obj} (hb : w.heap[b]? = some O) : w'.heap[b]? = some O := by
  rw [h.block b (Array.getElem?_eq_some_iff.1 hb).1]; exact hb
theorem print1_any (B g : Nat) (mini asc : Bool) (x : UInt8) (w : World) (bs : List UInt8) (hs : St B g mini asc bs w) (hl : bs.length + 1 ≤ 140737488355328) :
    Calls Tryz.prog 75 #[.pointer (some ⟨g, 0, none⟩), .string ⟨#[x]⟩] w fun e w' => e = .returned (.tuple #[]) ∧ Put B g mini asc (bs ++ [x]) w w' := print_any B g mini asc ⟨#[x]⟩ w bs hs hl
structure B80 (g ob : Nat) (v : Value) (T : Array Value) : Prop where
  sz : T.size = 384
  s0 : Sl T 0 (.pointer (some ⟨g, 0, none⟩))
  s1 : Sl T 1 v
  s5 : Sl T 5 (.pointer (some ⟨ob, 0, none⟩))
theorem B80.set {g ob : Nat} {v x : Value} {T : Array Value} {i : Nat} (h : B80 g ob v T) (hi : i ≠ 0 ∧ i ≠ 1 ∧ i ≠ 5) : B80 g ob v (T.setIfInBounds i x) := ⟨sz_set h.sz, h.s0.set hi.1, h.s1.set hi.2.1, h.s5.set hi.2.2⟩
structure L80 (g ob : Nat) (v : Value) (n cp : Nat) (T : Array Value) : Prop where
  b : B80 g ob v T
  s8 : Sl T 8 (.int .i64 (cp : Int))
  s70 : Sl T 70 v
  s71 : Sl T 71 (.int .i64 n)
theorem bk {g ob : Nat} {v : Value} {T : Array Value} (h : B80 g ob v T := by (repeat (with_reducible refine B80.set ?_ (by decide))); exact Hid.out (by assumption)) : B80 g ob v T := h
theorem L80.set {g ob : Nat} {v x : Value} {n cp : Nat} {T : Array Value} {i : Nat} (h : L80 g ob v n cp T) (hi : (i ≠ 0 ∧ i ≠ 1 ∧ i ≠ 5) ∧ i ≠ 8 ∧ i ≠ 70 ∧ i ≠ 71) : L80 g ob v n cp (T.setIfInBounds i x) := ⟨h.b.set hi.1, h.s8.set hi.2.1, h.s70.set hi.2.2.1, h.s71.set hi.2.2.2⟩
theorem lk {g ob : Nat} {v : Value} {n cp : Nat} {T : Array Value} (h : L80 g ob v n cp T := by (repeat (with_reducible refine L80.set ?_ (by decide))); exact Hid.out (by assumption)) : L80 g ob v n cp T := h
set_option maxHeartbeats 40000000 in
set_option maxRecDepth 100000 in
theorem printTokens_gen (g : Nat) (mini asc : Bool) (K : Nat) : ∀ (ts : List T) (v : Value) (w : World) (bs : List UInt8) (ind pd : Nat) (dl : Bool), cost ts < K → cost ts ≤ 134217728 → ind + (if dl then 1 else 0) ≤ 6 → pd ≤ 255 → OKl asc ts → TksAt w (fun b => b < W0.heap.size) v ts → Env F W0 w → St W0.heap.size g mini asc bs w → bs.length + cost ts + 1048576 ≤ 140737488355328 →
    Calls Tryz.prog 80 #[.pointer (some ⟨g, 0, none⟩), v, .agg #[.int .i32 (ind : Int), .int .u8 (pd : Int), .bool dl]] w (RetPT W0.heap.size g mini asc ts bs w) := by
  induction K with
  | zero => intro ts v w bs ind pd dl h; omega
  | succ K ih =>
  intro ts v w bs ind pd dl hK hcost hind hpd hok htk hE hst hl
  have hind6 : ind ≤ 6 := Nat.le_trans (Nat.le_add_right _ _) hind
  have hpd0 : (0 : Int) ≤ (pd : Int) := by omega
  have hpd1 : (pd : Int) ≤ 255 := by omega
  have hin0 : (0 : Int) ≤ (ind : Int) := by omega
  have hin1 : (ind : Int) ≤ 6 := by omega
  have HIND := Lib.hid hind
  have IH := Lib.hid ih
  have HB0 := Lib.hid (box_below (.cells #[.int .i32 (ind : Int), .int .u8 (pd : Int), .bool dl] 213) w)
  have HAW := Lib.hid htk
  have htk := tks_keep (g := g) (Ke.of_below HB0.out hst.base) htk
  obtain ⟨A, c, hv, hA⟩ := htk
  subst hv
  have HAW2 : Hid (ts ≠ [] → ∃ q : Nat, A = some ⟨q, 0, none⟩ ∧ q < W0.heap.size ∧ TksIn w (fun b => b < W0.heap.size) q 0 ts) := by
    obtain ⟨A', c', e, h⟩ := HAW.out
    injection e with e1 e2 e3
    subst e1
    exact h
  clear HAW
  have HOBW : Hid (w.heap.size ≤ w.heap.size) := Nat.le_refl _
  have HA := Lib.hid hA
  have HE := Lib.hid (hE.below HB0.out)
  have HST := Lib.hid (hst.grow HB0.out)
  have HS0 := Lib.hid hst
  have HEW := Lib.hid hE
  have HK := Lib.hid hK
  have HC := Lib.hid hcost
  have HOK := Lib.hid hok
  have HL := Lib.hid hl
  have HG : Hid (w.heap.size ≠ g) := by obtain ⟨⟨v, hp, _⟩, _⟩ := hst; have := hp.lt; show _ ≠ _; omega
  have htl : ts.length ≤ 16384 := by
    have : ∀ ts : List T, 8192 * ts.length ≤ cost ts := by
      intro ts
      induction ts with
      | nil => simp
      | cons t r ih => rw [cost_cons, List.length_cons]; omega
    have := this ts
    omega
  have hob : (w.alloc (.cells #[.int .i32 (ind : Int), .int .u8 (pd : Int), .bool dl] 213)).heap[w.heap.size]? = some (.cells #[.int .i32 (ind : Int), .int .u8 (pd : Int), .bool dl] 213 (0, 0)) := heap_alloc_new w _
  clear ih hA hE hst hK hcost hok hl hind hpd hind6
  go_enter Tryz.func80, Tryz.ntmps80
  refine wp_sym (fun T => T.size = 384 ∧ Sl T 0 (.pointer (some ⟨g, 0, none⟩)) ∧ Sl T 1 (.slice A ts.length c) ∧ Sl T 2 (.agg #[.int .i32 (ind : Int), .int .u8 (pd : Int), .bool dl])) ⟨rfl, rfl, rfl, rfl⟩ ?_
  rintro F0 ⟨hsz, h0, h1, h2⟩
  have T0 := Lib.hid h0
  have t0 := h0.get
  clear h0
  have T1 := Lib.hid h1
  have t1 := h1.get
  clear h1
  have T2 := Lib.hid h2
  have t2 := h2.get
  clear h2
  go_upto_region 1 with (fail)
  clear t2 T2
  obtain ⟨v0, hat0⟩ := HST.out.at_
  have hmini := hat0.pr.mini
  clear hat0
  generalize hW : w.alloc (.cells #[.int .i32 (ind : Int), .int .u8 (pd : Int), .bool dl] 213) = W at HB0 HA HE HST hob hmini ⊢
  have HSZW : Hid (w.heap.size < W.heap.size) := (Array.getElem?_eq_some_iff.1 hob).1
  have HOBW : Hid (∃ ob, ob = w.heap.size) := ⟨_, rfl⟩
  obtain ⟨ob, hobe⟩ := HOBW.out
  clear HOBW
  have HOBW : Hid (w.heap.size ≤ ob) := by show _ ≤ _; omega
  rw [← hobe] at HG hob ⊢
  have HOB := Lib.hid hob
  have o0 := cell_blk hob 0
  have o1 := cell_blk hob 1
  have o2 := cell_blk hob 2
  clear hW hobe hob
  refine wp_cut (fun a' wx => ∃ T', a' = ⟨T', []⟩ ∧ W = wx ∧ B80 g ob (.slice A ts.length c) T' ∧ Sl T' 7 (.bool (headBefore ts))) ?rest ?first
  case first =>
    intro J K' hJ hK'
    have HJ := Lib.hid hJ
    clear hJ
    rcases Nat.eq_zero_or_pos ts.length with h0 | h0
    · have h1 : (ts.length : Int) ≤ 0 := by omega
      have hts : headBefore ts = false := by rw [List.length_eq_zero_iff.1 h0]; rfl
      have HX := Lib.hid hts
      clear h0 hts
      go_wp2_with fail
      refine Met.intro (HJ.out _ _ ⟨_, rfl, rfl, ⟨zs, kp, kp, nw⟩, by rw [HX.out]; exact Sl.new (by simp [hsz])⟩)
    · have h1 : (0 : Int) < (ts.length : Int) := by omega
      obtain ⟨q, rfl, hq, hin⟩ := HA.out (by intro e; subst e; simp at h0)
      obtain ⟨t, ht0, hhd, _⟩ := drop_head h0
      rw [List.drop_zero] at hhd
      obtain ⟨ptr, u', htk⟩ := hin.get ht0
      have h6 : W.cell? ⟨q, 6, none⟩ = some (.int .u8 (wsV t.before t.after)) := by have := htk.cells 6 _ rfl; simpa using this
      have HHD := Lib.hid hhd
      clear hin htk h0 hhd ht0
      cases hb : t.before
      all_goals cases ha : t.after
      all_goals
        rw [hb, ha] at h6
        simp only [ws_ff, ws_ft, ws_tf, ws_tt] at h6
        have HX := Lib.hid (HHD.out.trans hb)
        clear hb ha
        go_wp2_with fail
        refine Met.intro (HJ.out _ _ ⟨_, rfl, rfl, ⟨zs, kp, kp, nw⟩, by rw [HX.out]; exact Sl.new (by simp [hsz])⟩)
  case rest =>
  intro a' wx hcut
  obtain ⟨F1, rfl, rfl, hB, h7⟩ := hcut
  clear t0 t1 T0 T1 hsz F0
  have hsz := hB.sz
  have t0 := hB.s0.get
  have t1 := hB.s1.get
  have t5 := hB.s5.get
  have HB := Lib.hid hB
  have T7 := Lib.hid h7
  have t7 := h7.get
  clear h7
  clear hB
  go_upto_region 3 with (fail)
  refine wp_cut (fun a' wx => ∃ T', a' = ⟨T', []⟩ ∧ W = wx ∧ B80 g ob (.slice A ts.length c) T' ∧ Sl T' 7 (.bool (headBefore ts)) ∧ Sl T' 8 (.int .i64 (pd : Int)) ∧ Sl T' 47 (.bool (!mini && dl))) ?rest ?first
  case first =>
    intro J K' hJ hK'
    have HJ := Lib.hid hJ
    clear hJ
    cases hm : mini
    all_goals cases hd : dl
    all_goals
      rw [hm] at hmini
      rw [hd] at o2
      have HMI := Lib.hid hm
      have HDL := Lib.hid hd
      clear hm hd
      go_wp2_with fail
      refine Met.intro (HJ.out _ _ ⟨_, rfl, rfl, bk, kp, nw, by rw [HMI.out, HDL.out]; (repeat (with_reducible refine Sl.set ?_ (by decide))); exact Sl.new (by simp [hsz])⟩)
  case rest =>
  intro a' wx hcut
  obtain ⟨F2, rfl, rfl, hB, h7, h8, h47⟩ := hcut
  clear t0 t1 t5 t7 T7 hsz HB F1
  have hsz := hB.sz
  have t0 := hB.s0.get
  have t1 := hB.s1.get
  have t5 := hB.s5.get
  have HB := Lib.hid hB
  have T7 := Lib.hid h7
  have t7 := h7.get
  clear h7
  have T8 := Lib.hid h8
  have t8 := h8.get
  clear h8
  have T47 := Lib.hid h47
  have t47 := h47.get
  clear h47
  clear hB hmini o1 o2
  go_upto_if 47 with (first | ((with_reducible refine wp_cond_w ?_); (conv => arg 1; simp [Act.eval, *]); first | refine condW_t ?_ | refine condW_f ?_) | ((with_reducible refine wpList_skip ?hw ?_); (case hw => simp [Region.wanted, yielded, Act.put, undef, hsz])))
  refine wp_cut (fun a' wx => ∃ T', a' = ⟨T', []⟩ ∧ Hid (Below W.heap.size W wx) ∧ B80 g ob (.slice A ts.length c) T' ∧ Sl T' 7 (.bool (headBefore ts)) ∧ ∃ cp : Nat, cp ≤ 255 ∧ Sl T' 8 (.int .i64 (cp : Int))) ?rest ?first
  case first =>
    intro J K' hJ hK'
    have HJ := Lib.hid hJ
    clear hJ
    obtain ⟨b47, hb47⟩ : ∃ b, (!mini && dl) = b := ⟨_, rfl⟩
    rw [hb47] at t47 T47
    clear hb47
    cases b47
    · go_upto_region 999 with (first | ((with_reducible refine wp_cond_w ?_); (conv => arg 1; simp [Act.eval, *]); first | refine condW_t ?_ | refine condW_f ?_) | ((with_reducible refine wpList_skip ?hw ?_); (case hw => simp [Region.wanted, yielded, Act.put, undef, hsz])))
      refine Met.intro (HJ.out _ _ ⟨_, rfl, Below.refl _ _, bk, kp, pd, by omega, kp⟩)
    · go_upto_region 999 with (first | ((with_reducible refine wp_cond_w ?_); (conv => arg 1; simp [Act.eval, *]); first | refine condW_t ?_ | refine condW_f ?_) | ((with_reducible refine wpList_skip ?hw ?_); (case hw => simp [Region.wanted, yielded, Act.put, undef, hsz])))
      refine wp_loop_ghost_k (fun k a' wr => ∃ T', a' = ⟨T', []⟩ ∧ B80 g ob (.slice A ts.length c) T' ∧ Sl T' 7 (.bool (headBefore ts)) ∧ Sl T' 8 (.int .i64 (pd : Int)) ∧ Sl T' 48 (.slice A ts.length c) ∧ Sl T' 49 (.int .i64 (ts.length : Nat)) ∧ ∃ (i cnt : Nat), Sl T' 9 (.int .i64 (cnt : Int)) ∧ Sl T' 50 (.int .i64 (i : Int)) ∧ cnt ≤ i ∧ i + k = ts.length ∧ Hid (Below W.heap.size W wr)) ts.length ?start ?round
      case start => exact ⟨_, rfl, bk, kp, kp, nw, nw, 0, 0, nw, nw, Nat.le_refl _, by omega, Below.refl _ _⟩
      case round =>
        clear hsz t0 t1 t5 t7 T7 T8 t8 t47 T47 HB F2
        intro gk a' wr hinv J9 K9 hJ9 hK9
        obtain ⟨F3, rfl, hB, h7, h8, h48, h49, i, cnt, h9, h50, hci, hik, HBR⟩ := hinv
        have HJ9 := Lib.hid hJ9
        clear hJ9
        have hsz := hB.sz
        have t0 := hB.s0.get
        have t1 := hB.s1.get
        have t5 := hB.s5.get
        have HB := Lib.hid hB
        clear hB
        have T7 := Lib.hid h7
        have t7 := h7.get
        clear h7
        have T8 := Lib.hid h8
        have t8 := h8.get
        clear h8
        have T9 := Lib.hid h9
        have t9 := h9.get
        clear h9
        have T48 := Lib.hid h48
        have t48 := h48.get
        clear h48
        have T49 := Lib.hid h49
        have t49 := h49.get
        clear h49
        have T50 := Lib.hid h50
        have t50 := h50.get
        clear h50
        have hi0 : (0 : Int) ≤ (i : Int) := by omega
        have hi1 : (i : Int) ≤ 16384 := by omega
        have hn0 : (0 : Int) ≤ (cnt : Int) := by omega
        have hn1 : (cnt : Int) ≤ 16384 := by omega
        by_cases hlt : i < ts.length
        · have hlti : (i : Int) < (ts.length : Int) := by omega
          obtain ⟨q, rfl, hq, hin⟩ := HA.out (by intro e; subst e; simp at hlt)
          obtain ⟨t, hti, _, _⟩ := drop_head hlt
          obtain ⟨ptr, u', htk⟩ := hin.get hti
          obtain ⟨px, rfl⟩ : ∃ px, ptr = .pointer px := by
            by_cases ho : opens t.kind
            · obtain ⟨p, _, e, _⟩ := htk.kids ho; exact ⟨_, e⟩
            · exact ⟨_, htk.leaf ho⟩
          have hcc : ∀ j x, (ctCells (.pointer px) t.text u' t.kind t.before t.after)[j]? = some x → wr.cell? ⟨q, i * 7 + j, none⟩ = some x := fun j x hx => below_cell HBR.out (htk.cells j x hx)
          have a0 : wr.cell? ⟨q, i * 7, none⟩ = some (.pointer px) := hcc 0 _ rfl
          have a1 : wr.cell? ⟨q, i * 7 + 1, none⟩ = some (.string ⟨⟨enc t.text⟩⟩) := hcc 1 _ rfl
          have a2 : wr.cell? ⟨q, i * 7 + 2, none⟩ = some (.int .i32 0) := hcc 2 _ rfl
          have a3 : wr.cell? ⟨q, i * 7 + 3, none⟩ = some (.int .u32 0) := hcc 3 _ rfl
          have a4 : wr.cell? ⟨q, i * 7 + 4, none⟩ = some (.int .u16 u') := hcc 4 _ rfl
          have a5 : wr.cell? ⟨q, i * 7 + 5, none⟩ = some (.int .u8 t.kind) := hcc 5 _ rfl
          have a6 : wr.cell? ⟨q, i * 7 + 6, none⟩ = some (.int .u8 (wsV t.before t.after)) := hcc 6 _ rfl
          have HBX := Lib.hid (below_then HBR.out (box_below (.cells #[.pointer px, .string ⟨⟨enc t.text⟩⟩, .int .i32 0, .int .u32 0, .int .u16 u', .int .u8 t.kind, .int .u8 (wsV t.before t.after)] 105) wr))
          have hb1 : (wr.alloc (.cells #[.pointer px, .string ⟨⟨enc t.text⟩⟩, .int .i32 0, .int .u32 0, .int .u16 u', .int .u8 t.kind, .int .u8 (wsV t.before t.after)] 105)).heap[wr.heap.size]? = some (.cells #[.pointer px, .string ⟨⟨enc t.text⟩⟩, .int .i32 0, .int .u32 0, .int .u16 u', .int .u8 t.kind, .int .u8 (wsV t.before t.after)] 105 (0, 0)) := heap_alloc_new wr _
          have HB1C := Lib.hid hb1
          have HPER : Hid ((t.kind == 27) = true → ∀ w', Below W.heap.size W w' → Calls Tryz.prog 109 #[.agg (tkA px ⟨⟨enc t.text⟩⟩ u' t.kind (wsV t.before t.after))] w' (RetPer w')) := by
            intro hk27 w' hw'
            have hk : t.kind = 27 := beq_iff_eq.1 hk27
            obtain ⟨p, v', e1, hp, hcell, htk'⟩ := htk.kids (by rw [hk]; exact .inl rfl)
            injection e1 with e1
            subst e1
            rw [hk]
            have h1 := cost_text (List.mem_of_getElem? hti)
            have h2 := HC.out
            have h3 := enc_len_le t.text
            have h4 : 8192 * t.kids.length ≤ cost t.kids := by
              have : ∀ ts : List T, 8192 * ts.length ≤ cost ts := by
                intro ts
                induction ts with
                | nil => simp
                | cons t r ih => rw [cost_cons, List.length_cons]; omega
              exact this _
            refine period_func (F := F) (W0 := W0) p ⟨⟨enc t.text⟩⟩ (by show (enc t.text).length ≤ _; omega) u' _ v' t.kids (by omega) (fun b => b < W0.heap.size) w' (HE.out.below hw') (below_cell hw' hcell) (fun b hb => Nat.lt_of_lt_of_le hb (Nat.le_trans HST.out.base hw'.size)) (htk'.keep fun b hb => ⟨hb, hw'.block b (Nat.lt_of_lt_of_le hb HST.out.base)⟩)
          clear hcc htk hin hti hb1
          go_upto_if 56 with (first | ((with_reducible refine wp_cond_w ?_); (conv => arg 1; simp [Act.eval, *]); first | refine condW_t ?_ | refine condW_f ?_) | ((with_reducible refine wpList_skip ?hw ?_); (case hw => simp [Region.wanted, yielded, Act.put, undef, hsz])))
          change Code.wp _ _ _ _ (wr.alloc (.cells #[.pointer px, .string ⟨⟨enc t.text⟩⟩, .int .i32 0, .int .u32 0, .int .u16 u', .int .u8 t.kind, .int .u8 (wsV t.before t.after)] 105))
          generalize wr.alloc (.cells #[.pointer px, .string ⟨⟨enc t.text⟩⟩, .int .i32 0, .int .u32 0, .int .u16 u', .int .u8 t.kind, .int .u8 (wsV t.before t.after)] 105) = W1 at HBX HB1C ⊢
          generalize wr.heap.size = b1 at HB1C ⊢
          clear a0 a1 a2 a3 a4 a5 a6
          have e0 := cell_blk HB1C.out 0
          have e1 := cell_blk HB1C.out 1
          have e2 := cell_blk HB1C.out 2
          have e3 := cell_blk HB1C.out 3
          have e4 := cell_blk HB1C.out 4
          have e5 := cell_blk HB1C.out 5
          have e6 : W1.cell? ⟨b1, 6, none⟩ = some (.int .u8 (wsV t.before t.after)) := cell_blk HB1C.out 6
          refine wp_cut (fun a' wx => ∃ T', a' = ⟨T', []⟩ ∧ W1 = wx ∧ B80 g ob (.slice (some ⟨q, 0, none⟩) ts.length c) T' ∧ Sl T' 7 (.bool (headBefore ts)) ∧ Sl T' 8 (.int .i64 (pd : Int)) ∧ Sl T' 48 (.slice (some ⟨q, 0, none⟩) ts.length c) ∧ Sl T' 49 (.int .i64 (ts.length : Nat)) ∧ Sl T' 11 (.pointer (some ⟨b1, 0, none⟩)) ∧ Sl T' 50 (.int .i64 (i : Int)) ∧ ∃ cnt' : Nat, cnt' ≤ i + 1 ∧ Sl T' 9 (.int .i64 (cnt' : Int))) ?restA ?firstA
          case firstA =>
            intro J2 K2 hJ2 hK2
            have HJ2 := Lib.hid hJ2
            clear hJ2
            cases hk10 : (t.kind == 10)
            · go_upto_region 999 with (first | ((with_reducible refine wp_cond_w ?_); (conv => arg 1; simp [Act.eval, *]); first | refine condW_t ?_ | refine condW_f ?_) | ((with_reducible refine wpList_skip ?hw ?_); (case hw => simp [Region.wanted, yielded, Act.put, undef, hsz])))
              refine Met.intro (HJ2.out _ _ ⟨_, rfl, rfl, bk, kp, kp, kp, kp, nw, kp, cnt, by omega, kp⟩)
            · obtain ⟨cn, hcn⟩ : ∃ cn : Nat, (cnt : Int) + 1 = (cn : Int) := ⟨cnt + 1, by omega⟩
              have hcn0 : (0 : Int) ≤ (cn : Int) := by omega
              have hcn1 : (cn : Int) ≤ 16385 := by omega
              by_cases h2 : (2 : Int) ≤ (cn : Int)
              · go_upto_region 999 with (first | ((with_reducible refine wp_cond_w ?_); (conv => arg 1; simp [Act.eval, *]); first | refine condW_t ?_ | refine condW_f ?_) | ((with_reducible refine wpList_skip ?hw ?_); (case hw => simp [Region.wanted, yielded, Act.put, undef, hsz])))
                refine Met.intro (HJ.out _ _ ⟨_, rfl, HBX.out, bk, kp, 1, by omega, nw⟩)
              · have h2' : (cn : Int) < 2 := by omega
                go_upto_region 999 with (first | ((with_reducible refine wp_cond_w ?_); (conv => arg 1; simp [Act.eval, *]); first | refine condW_t ?_ | refine condW_f ?_) | ((with_reducible refine wpList_skip ?hw ?_); (case hw => simp [Region.wanted, yielded, Act.put, undef, hsz])))
                refine Met.intro (HJ2.out _ _ ⟨_, rfl, rfl, bk, kp, kp, kp, kp, nw, kp, cn, by omega, nw⟩)
          case restA =>
          intro a' wx hcut
          obtain ⟨F4, rfl, rfl, hB, h7, h8, h48, h49, h11, h50, cnt2, hci2, h9⟩ := hcut
          clear hsz t0 t1 t5 HB t7 T7 t8 T8 t9 T9 t48 T48 t49 T49 t50 T50 F3 hn0 hn1 hci
          have hsz := hB.sz
          have t0 := hB.s0.get
          have t1 := hB.s1.get
          have t5 := hB.s5.get
          have HB := Lib.hid hB
          clear hB
          have T7 := Lib.hid h7
          have t7 := h7.get
          clear h7
          have T8 := Lib.hid h8
          have t8 := h8.get
          clear h8
          have T9 := Lib.hid h9
          have t9 := h9.get
          clear h9
          have T11 := Lib.hid h11
          have t11 := h11.get
          clear h11
          have T48 := Lib.hid h48
          have t48 := h48.get
          clear h48
          have T49 := Lib.hid h49
          have t49 := h49.get
          clear h49
          have T50 := Lib.hid h50
          have t50 := h50.get
          clear h50
          have hroom : ∀ T9 : Array Value, Sl T9 50 (.int .i64 ((i : Int) + 1)) → Sl T9 50 (.int .i64 ((i + 1 : Nat) : Int)) := fun T9 h => by
            have e : Value.int .i64 ((i : Int) + 1) = Value.int .i64 ((i + 1 : Nat) : Int) := by congr 1
            rw [← e]; exact h
          have HROOM := Lib.hid hroom
          clear hroom
          go_upto_region 12 with (first | ((with_reducible refine wp_cond_w ?_); (conv => arg 1; simp [Act.eval, *]); first | refine condW_t ?_ | refine condW_f ?_) | ((with_reducible refine wpList_skip ?hw ?_); (case hw => simp [Region.wanted, yielded, Act.put, undef, hsz])))
          refine wp_cut (fun a' wx => ∃ T', a' = ⟨T', []⟩ ∧ Hid (Below W.heap.size W wx) ∧ B80 g ob (.slice (some ⟨q, 0, none⟩) ts.length c) T' ∧ Sl T' 7 (.bool (headBefore ts)) ∧ Sl T' 8 (.int .i64 (pd : Int)) ∧ Sl T' 48 (.slice (some ⟨q, 0, none⟩) ts.length c) ∧ Sl T' 49 (.int .i64 (ts.length : Nat)) ∧ Sl T' 50 (.int .i64 (i : Int)) ∧ Sl T' 9 (.int .i64 (cnt2 : Int)) ∧ ∃ b : Bool, Sl T' 68 (.bool b)) ?restB ?firstB
          case firstB =>
            intro J2 K2 hJ2 hK2
            have HJ2 := Lib.hid hJ2
            clear hJ2
            cases hk27 : (t.kind == 27)
            · go_upto_region 999 with (first | ((with_reducible refine wp_cond_w ?_); (conv => arg 1; simp [Act.eval, *]); first | refine condW_t ?_ | refine condW_f ?_) | ((with_reducible refine wpList_skip ?hw ?_); (case hw => simp [Region.wanted, yielded, Act.put, undef, hsz])))
              refine Met.intro (HJ2.out _ _ ⟨_, rfl, HBX.out, bk, kp, kp, kp, kp, kp, kp, _, nw⟩)
            · have HCALL := Lib.hid (HPER.out hk27 _ HBX.out)
              go_upto_region 999 with (first | ((with_reducible refine wp_cond_w ?_); (conv => arg 1; simp [Act.eval, *]); first | refine condW_t ?_ | refine condW_f ?_) | ((with_reducible refine wpList_skip ?hw ?_); (case hw => simp [Region.wanted, yielded, Act.put, undef, hsz])) | (go_at_call 109; go_must (refine HCALL.out.mono ?_; rintro e' w2 ⟨pp, hpp, rfl, hb2⟩; have HB2 := Lib.hid (below_then HBX.out hb2); clear hb2; have hpp0 : (0 : Int) ≤ (pp : Int) := by omega)))
              refine Met.intro (HJ2.out _ _ ⟨_, rfl, HB2.out, bk, kp, kp, kp, kp, kp, kp, _, nw⟩)
          case restB =>
          intro a' W2 hcut
          obtain ⟨F5, rfl, HB2, hB, h7, h8, h48, h49, h50, h9, b, h68⟩ := hcut
          clear hsz t0 t1 t5 HB t7 T7 t8 T8 t9 T9 t11 T11 t48 T48 t49 T49 t50 T50 F4 e0 e1 e2 e3 e4 e5 e6
          have hsz := hB.sz
          have t0 := hB.s0.get
          have t1 := hB.s1.get
          have t5 := hB.s5.get
          have HB := Lib.hid hB
          clear hB
          have T7 := Lib.hid h7
          have t7 := h7.get
          clear h7
          have T8 := Lib.hid h8
          have t8 := h8.get
          clear h8
          have T9 := Lib.hid h9
          have t9 := h9.get
          clear h9
          have T48 := Lib.hid h48
          have t48 := h48.get
          clear h48
          have T49 := Lib.hid h49
          have t49 := h49.get
          clear h49
          have T50 := Lib.hid h50
          have t50 := h50.get
          clear h50
          have T68 := Lib.hid h68
          have t68 := h68.get
          clear h68
          cases b
          · go_upto_region 999 with (first | ((with_reducible refine wp_cond_w ?_); (conv => arg 1; simp [Act.eval, *]); first | refine condW_t ?_ | refine condW_f ?_) | ((with_reducible refine wpList_skip ?hw ?_); (case hw => simp [Region.wanted, yielded, Act.put, undef, hsz])))
            refine Handed.intro (ts.length - (i + 1)) (by omega) (HJ9.out _ _ _ ⟨_, rfl, bk, kp, kp, kp, kp, i + 1, cnt2, kp, HROOM.out _ (by (repeat (with_reducible refine Sl.set ?_ (by decide))); exact Sl.new (by simp [hsz])), by omega, by omega, HB2.out⟩)
          · go_upto_region 999 with (first | ((with_reducible refine wp_cond_w ?_); (conv => arg 1; simp [Act.eval, *]); first | refine condW_t ?_ | refine condW_f ?_) | ((with_reducible refine wpList_skip ?hw ?_); (case hw => simp [Region.wanted, yielded, Act.put, undef, hsz])))
            refine Met.intro (HJ.out _ _ ⟨_, rfl, HB2.out, bk, kp, 1, by omega, nw⟩)
        · have hle : (ts.length : Int) ≤ (i : Int) := by omega
          go_upto_region 999 with (first | ((with_reducible refine wp_cond_w ?_); (conv => arg 1; simp [Act.eval, *]); first | refine condW_t ?_ | refine condW_f ?_) | ((with_reducible refine wpList_skip ?hw ?_); (case hw => simp [Region.wanted, yielded, Act.put, undef, hsz])))
          refine Met.intro (HJ.out _ _ ⟨_, rfl, HBR.out, bk, kp, pd, by omega, kp⟩)
  case rest =>
  intro a' WX hcut
  obtain ⟨F2b, rfl, HBX, hB, h7, cp, hcp, h8⟩ := hcut
  clear t0 t1 t5 t7 T7 t8 T8 t47 T47 hsz HB F2
  have hsz := hB.sz
  have t0 := hB.s0.get
  have t1 := hB.s1.get
  have t5 := hB.s5.get
  have HB := Lib.hid hB
  have T7 := Lib.hid h7
  have t7 := h7.get
  clear h7
  have T8 := Lib.hid h8
  have t8 := h8.get
  clear h8
  clear hB
  have HBWX : Hid (Below w.heap.size w WX) := below_then HB0.out HBX.out
  have HSTX : Hid (St W0.heap.size g mini asc bs WX) := HST.out.grow HBX.out
  have HEX : Hid (Env F W0 WX) := HE.out.below HBX.out
  have HOBX : Hid (WX.heap[ob]? = some (.cells #[.int .i32 (ind : Int), .int .u8 (pd : Int), .bool dl] 213 (0, 0))) := blk_below HBX.out HOB.out
  have HPUTX : Hid (Put W0.heap.size g mini asc bs w WX) := ⟨HSTX.out, Ke.of_below HBWX.out HS0.out.base⟩
  clear HST HE HOB HA HBX
  have hcp0 : (0 : Int) ≤ (cp : Int) := by omega
  have hcp1 : (cp : Int) ≤ 255 := by omega
  go_upto_region 999 with (first | ((with_reducible refine wp_cond_w ?_); (conv => arg 1; simp [Act.eval, *]); first | refine condW_t ?_ | refine condW_f ?_) | ((with_reducible refine wpList_skip ?hw ?_); (case hw => simp [Region.wanted, yielded, Act.put, undef, hsz])))
  refine wp_loop_ghost_k (fun k a' wr => ∃ T', a' = ⟨T', []⟩ ∧ L80 g ob (.slice A ts.length c) ts.length cp T' ∧ ∃ (i : Nat) (has : Bool) (cc : Int) (pre : List Ch), Sl T' 7 (.bool has) ∧ Sl T' 12 (.int .i64 cc) ∧ Sl T' 72 (.int .i64 i) ∧ i + k = ts.length ∧ Hid (Pre asc ts i has pre) ∧ Hid (Put W0.heap.size g mini asc (bs ++ enc (flat pre)) w wr) ∧ Hid (wr.heap[ob]? = some (.cells #[.int .i32 (ind : Int), .int .u8 (pd : Int), .bool dl] 213 (0, 0)))) ts.length ?start ?round
  case start =>
    refine ⟨_, rfl, ⟨bk, kp, nw, nw⟩, 0, headBefore ts, 0, [], kp, nw, nw, by omega, Pre.zero asc ts, ?_, HOBX.out⟩
    have := HPUTX.out
    show Put _ _ _ _ (bs ++ []) _ _
    rw [List.append_nil]; exact this
  case round =>
    clear hsz t0 t1 t5 t7 T7 T8 t8 HB F2b HPUTX HOBX HEX HSTX
    intro gk a' wr hinv J K' hJ hK'
    obtain ⟨F3, rfl, hB, i, has, cc, pre, h7, h12, h72, hik, HP, HPUT, HOBR⟩ := hinv
    have HJ := Lib.hid hJ
    clear hJ
    have hsz := hB.b.sz
    have t0 := hB.b.s0.get
    have t1 := hB.b.s1.get
    have t5 := hB.b.s5.get
    have t8 := hB.s8.get
    have t70 := hB.s70.get
    have t71 := hB.s71.get
    have HLB := Lib.hid hB
    clear hB
    have T7 := Lib.hid h7
    have t7 := h7.get
    clear h7
    have T12 := Lib.hid h12
    have t12 := h12.get
    clear h12
    have T72 := Lib.hid h72
    have t72 := h72.get
    clear h72
    have hi0 : (0 : Int) ≤ (i : Int) := by omega
    have hi1 : (i : Int) ≤ 16384 := by omega
    by_cases hlt : i < ts.length
    · have hlti : (i : Int) < (ts.length : Int) := by omega
      obtain ⟨q, rfl, hq, hin⟩ := HAW2.out (by intro e; subst e; simp at hlt)
      obtain ⟨t, hti, _, hdrop⟩ := drop_head hlt
      obtain ⟨ptr, u', htk⟩ := hin.get hti
      obtain ⟨px, rfl⟩ : ∃ px, ptr = .pointer px := by
        by_cases ho : opens t.kind
        · obtain ⟨p, _, e, _⟩ := htk.kids ho; exact ⟨_, e⟩
        · exact ⟨_, htk.leaf ho⟩
      have hlow : wr.heap[q]? = w.heap[q]? := HPUT.out.ke.low q hq
      have hcc : ∀ j x, (ctCells (.pointer px) t.text u' t.kind t.before t.after)[j]? = some x → wr.cell? ⟨q, i * 7 + j, none⟩ = some x := fun j x hx => by
        rw [World.cell?_of_block (w := w) (a := ⟨q, i * 7 + j, none⟩) hlow]; exact htk.cells j x hx
      have a0 : wr.cell? ⟨q, i * 7, none⟩ = some (.pointer px) := hcc 0 _ rfl
      have a1 : wr.cell? ⟨q, i * 7 + 1, none⟩ = some (.string ⟨⟨enc t.text⟩⟩) := hcc 1 _ rfl
      have a2 : wr.cell? ⟨q, i * 7 + 2, none⟩ = some (.int .i32 0) := hcc 2 _ rfl
      have a3 : wr.cell? ⟨q, i * 7 + 3, none⟩ = some (.int .u32 0) := hcc 3 _ rfl
      have a4 : wr.cell? ⟨q, i * 7 + 4, none⟩ = some (.int .u16 u') := hcc 4 _ rfl
      have a5 : wr.cell? ⟨q, i * 7 + 5, none⟩ = some (.int .u8 t.kind) := hcc 5 _ rfl
      have a6 : wr.cell? ⟨q, i * 7 + 6, none⟩ = some (.int .u8 (wsV t.before t.after)) := hcc 6 _ rfl
      obtain ⟨hok1, hokk⟩ := okl_mem HOK.out (List.mem_of_getElem? hti)
      obtain ⟨hk38, hk0, hk1, hkk⟩ := ok_kinds hok1
      have HKK := Lib.hid hkk
      have HO1 := Lib.hid hok1
      have HOKK := Lib.hid hokk
      have HUNIT := Lib.hid htk.unit
      have HKIDS := Lib.hid htk.kids
      have HLEAF := Lib.hid htk.leaf
      have HDR := Lib.hid hdrop
      have HIN := Lib.hid hin
      have HTI := Lib.hid hti
      have HB1 := Lib.hid (box_below (.cells #[.pointer px, .string ⟨⟨enc t.text⟩⟩, .int .i32 0, .int .u32 0, .int .u16 u', .int .u8 t.kind, .int .u8 (wsV t.before t.after)] 105) wr)
      have HOB1 := Lib.hid (blk_below HB1.out HOBR.out)
      have hb1 : (wr.alloc (.cells #[.pointer px, .string ⟨⟨enc t.text⟩⟩, .int .i32 0, .int .u32 0, .int .u16 u', .int .u8 t.kind, .int .u8 (wsV t.before t.after)] 105)).heap[wr.heap.size]? = some (.cells #[.pointer px, .string ⟨⟨enc t.text⟩⟩, .int .i32 0, .int .u32 0, .int .u16 u', .int .u8 t.kind, .int .u8 (wsV t.before t.after)] 105 (0, 0)) := heap_alloc_new wr _
      have HB1C := Lib.hid hb1
      clear hcc hlow htk hin hti hdrop hok1 hokk hkk hb1
      go_upto_if 79 with (first | ((with_reducible refine wp_cond_w ?_); (conv => arg 1; simp [Act.eval, *]); first | refine condW_t ?_ | refine condW_f ?_) | ((with_reducible refine wpList_skip ?hw ?_); (case hw => simp [Region.wanted, yielded, Act.put, undef, hsz])))
      refine wp_cut (fun a' wx => ∃ T', a' = ⟨T', []⟩ ∧ wx = wr.alloc (.cells #[.pointer px, .string ⟨⟨enc t.text⟩⟩, .int .i32 0, .int .u32 0, .int .u16 u', .int .u8 t.kind, .int .u8 (wsV t.before t.after)] 105) ∧ L80 g ob (.slice (some ⟨q, 0, none⟩) ts.length c) ts.length cp T' ∧ Sl T' 7 (.bool has) ∧ (∃ cc' : Int, Sl T' 12 (.int .i64 cc')) ∧ Sl T' 13 (.int .i64 i) ∧ Sl T' 14 (.pointer (some ⟨wr.heap.size, 0, none⟩)) ∧ Sl T' 72 (.int .i64 i)) ?rest ?first
      case first =>
        intro J2 K2 hJ2 hK2
        have HJ2 := Lib.hid hJ2
        clear hJ2
        cases hk10 : (t.kind == 10)
        · go_upto_region 999 with (first | ((with_reducible refine wp_cond_w ?_); (conv => arg 1; simp [Act.eval, *]); first | refine condW_t ?_ | refine condW_f ?_) | ((with_reducible refine wpList_skip ?hw ?_); (case hw => simp [Region.wanted, yielded, Act.put, undef, hsz])))
          refine Met.intro (HJ2.out _ _ ⟨_, rfl, rfl, lk, kp, ⟨_, kp⟩, nw, nw, kp⟩)
        · go_upto_region 999 with (first | ((with_reducible refine wp_cond_w ?_); (conv => arg 1; simp [Act.eval, *]); first | refine condW_t ?_ | refine condW_f ?_) | ((with_reducible refine wpList_skip ?hw ?_); (case hw => simp [Region.wanted, yielded, Act.put, undef, hsz])))
          refine Met.intro (HJ2.out _ _ ⟨_, rfl, rfl, lk, kp, ⟨_, nw⟩, nw, nw, kp⟩)
      case rest =>
      intro a' wx hcut
      obtain ⟨F4, rfl, rfl, hB, h7, ⟨cc', h12⟩, h13, h14, h72⟩ := hcut
      clear a0 a1 a2 a3 a4 a5 a6 hsz t0 t1 t5 t8 t70 t71 HLB t7 T7 t12 T12 t72 T72 F3
      have hsz := hB.b.sz
      have t0 := hB.b.s0.get
      have t1 := hB.b.s1.get
      have t5 := hB.b.s5.get
      have t8 := hB.s8.get
      have t70 := hB.s70.get
      have t71 := hB.s71.get
      have HLB := Lib.hid hB
      clear hB
      have T7 := Lib.hid h7
      have t7 := h7.get
      clear h7
      have T12 := Lib.hid h12
      have t12 := h12.get
      clear h12
      have T13 := Lib.hid h13
      have t13 := h13.get
      clear h13
      have T14 := Lib.hid h14
      have t14 := h14.get
      clear h14
      have T72 := Lib.hid h72
      have t72 := h72.get
      clear h72
      generalize hW1 : wr.alloc (.cells #[.pointer px, .string ⟨⟨enc t.text⟩⟩, .int .i32 0, .int .u32 0, .int .u16 u', .int .u8 t.kind, .int .u8 (wsV t.before t.after)] 105) = W1 at HB1 HB1C HOB1 ⊢
      have HP1 : Hid (Put W0.heap.size g mini asc (bs ++ enc (flat pre)) w W1) := ⟨HPUT.out.st.grow HB1.out, HPUT.out.ke.trans (Ke.of_below HB1.out HPUT.out.st.base)⟩
      have HG1 : Hid (wr.heap.size ≠ g) := by obtain ⟨⟨v, hp, _⟩, _⟩ := HPUT.out.st; have := hp.lt; show _ ≠ _; omega
      have HGB : Hid (wr.heap.size ≠ ob) := by have := (Array.getElem?_eq_some_iff.1 HOBR.out).1; show _ ≠ _; omega
      generalize hB1 : wr.heap.size = b1 at HB1C HG1 HGB T14 t14 ⊢
      clear hW1 hB1
      obtain ⟨v1, hat1⟩ := HP1.out.st.at_
      have hlim := hat1.pr.lim
      clear hat1
      have e5 := cell_blk HB1C.out 5
      have HLEN : Hid ((bs ++ enc (flat pre)).length + 16 * t.text.length + 8192 + cost t.kids + 1048576 ≤ 140737488355328) := by
        have h1 := HP.out.size
        rw [HDR.out, cost_cons] at h1
        have h2 := HL.out
        show _ ≤ _
        rw [List.length_append]; omega
      go_upto_if 85 with (first | ((with_reducible refine wp_cond_w ?_); (conv => arg 1; simp [Act.eval, *]); first | refine condW_t ?_ | refine condW_f ?_) | ((with_reducible refine wpList_skip ?hw ?_); (case hw => simp [Region.wanted, yielded, Act.put, undef, hsz])))
      refine wp_cut (fun a' wx => ∃ T', a' = ⟨T', []⟩ ∧ (∃ ws, Hid (WsOk has ws) ∧ Hid (Put W0.heap.size g mini asc (bs ++ enc (flat pre) ++ enc (flat ws)) W1 wx)) ∧ L80 g ob (.slice (some ⟨q, 0, none⟩) ts.length c) ts.length cp T' ∧ Sl T' 12 (.int .i64 cc') ∧ Sl T' 13 (.int .i64 i) ∧ Sl T' 14 (.pointer (some ⟨b1, 0, none⟩)) ∧ Sl T' 72 (.int .i64 i)) ?rest ?first
      case first =>
        intro J2 K2 hJ2 hK2
        have HJ2 := Lib.hid hJ2
        clear hJ2
        cases has
        · go_upto_region 999 with (first | ((with_reducible refine wp_cond_w ?_); (conv => arg 1; simp [Act.eval, *]); first | refine condW_t ?_ | refine condW_f ?_) | ((with_reducible refine wpList_skip ?hw ?_); (case hw => simp [Region.wanted, yielded, Act.put, undef, hsz])))
          refine Met.intro (HJ2.out _ _ ⟨_, rfl, ⟨[], wsOk_no, ?_⟩, lk, kp, kp, kp, kp⟩)
          show Put _ _ _ _ (bs ++ enc (flat pre) ++ []) _ _
          rw [List.append_nil]; exact Put.refl' HP1.out.st
        · have o0 := cell_blk HOB1.out 0
          have HPV : Hid (∀ im : Nat, (i : Int) - 1 = (im : Int) → ∃ kk : Int, W1.cell? ⟨q, im * 7 + 5, none⟩ = some (.int .u8 kk)) := by
            intro im him
            have hi2 : im < ts.length := by omega
            obtain ⟨t2, ht2, _, _⟩ := drop_head hi2
            obtain ⟨p2, u2, hk2⟩ := HIN.out.get ht2
            refine ⟨t2.kind, ?_⟩
            rw [World.cell?_of_block (w := w) (a := ⟨q, im * 7 + 5, none⟩) (HP1.out.ke.low q hq)]
            exact hk2.cells 5 _ rfl
          go_upto_region 24 with (first | ((with_reducible refine wp_cond_w ?_); (conv => arg 1; simp [Act.eval, *]); first | refine condW_t ?_ | refine condW_f ?_) | ((with_reducible refine wpList_skip ?hw ?_); (case hw => simp [Region.wanted, yielded, Act.put, undef, hsz])))
          refine wp_cut (fun a' wx => ∃ T', a' = ⟨T', []⟩ ∧ W1 = wx ∧ L80 g ob (.slice (some ⟨q, 0, none⟩) ts.length c) ts.length cp T' ∧ Sl T' 12 (.int .i64 cc') ∧ Sl T' 13 (.int .i64 i) ∧ Sl T' 14 (.pointer (some ⟨b1, 0, none⟩)) ∧ Sl T' 72 (.int .i64 i) ∧ ∃ b : Bool, Sl T' 106 (.bool b)) ?restC ?firstC
          case firstC =>
            intro J3 K3 hJ3 hK3
            have HJ3 := Lib.hid hJ3
            clear hJ3
            rcases Nat.eq_zero_or_pos cp with h0 | h0
            · have hc0 : (cp : Int) ≤ 0 := by omega
              clear h0
              go_upto_region 999 with (first | ((with_reducible refine wp_cond_w ?_); (conv => arg 1; simp [Act.eval, *]); first | refine condW_t ?_ | refine condW_f ?_) | ((with_reducible refine wpList_skip ?hw ?_); (case hw => simp [Region.wanted, yielded, Act.put, undef, hsz])))
              refine Met.intro (HJ3.out _ _ ⟨_, rfl, rfl, lk, kp, kp, kp, kp, _, nw⟩)
            · have hc0 : (0 : Int) < (cp : Int) := by omega
              have hc1 : ((cp : Int) == 0) = false := by simp; omega
              have hc2 : ¬ (cp : Int) = 0 := by omega
              clear h0
              rcases Nat.eq_zero_or_pos i with hi | hi
              · have hie : ((i : Int) == 0) = true := by simp; omega
                clear hi
                go_upto_region 999 with (first | ((with_reducible refine wp_cond_w ?_); (conv => arg 1; simp [Act.eval, *]); first | refine condW_t ?_ | refine condW_f ?_) | ((with_reducible refine wpList_skip ?hw ?_); (case hw => simp [Region.wanted, yielded, Act.put, undef, hsz])))
                refine Met.intro (HJ3.out _ _ ⟨_, rfl, rfl, lk, kp, kp, kp, kp, _, nw⟩)
              · have hie : ((i : Int) == 0) = false := by simp; omega
                obtain ⟨im, him⟩ : ∃ im : Nat, (i : Int) - 1 = (im : Int) := ⟨i - 1, by omega⟩
                obtain ⟨kk, hkk⟩ := HPV.out im him
                have him0 : (0 : Int) ≤ (im : Int) := by omega
                have him1 : (im : Int) < (ts.length : Int) := by omega
                have him2 : (im : Int) ≤ 16384 := by omega
                clear hi
                cases hk : (kk == 10)
                · go_upto_region 999 with (first | ((with_reducible refine wp_cond_w ?_); (conv => arg 1; simp [Act.eval, *]); first | refine condW_t ?_ | refine condW_f ?_) | ((with_reducible refine wpList_skip ?hw ?_); (case hw => simp [Region.wanted, yielded, Act.put, undef, hsz])))
                  refine Met.intro (HJ3.out _ _ ⟨_, rfl, rfl, lk, kp, kp, kp, kp, _, nw⟩)
                · go_upto_region 999 with (first | ((with_reducible refine wp_cond_w ?_); (conv => arg 1; simp [Act.eval, *]); first | refine condW_t ?_ | refine condW_f ?_) | ((with_reducible refine wpList_skip ?hw ?_); (case hw => simp [Region.wanted, yielded, Act.put, undef, hsz])))
                  refine Met.intro (HJ3.out _ _ ⟨_, rfl, rfl, lk, kp, kp, kp, kp, _, nw⟩)
          case restC =>
          intro a' wx hcut
          obtain ⟨F4c, rfl, rfl, hB, h12, h13, h14, h72, b, h106⟩ := hcut
          clear hsz t0 t1 t5 t8 t70 t71 HLB t7 T7 t12 T12 t13 T13 t14 T14 t72 T72 F4
          have hsz := hB.b.sz
          have t0 := hB.b.s0.get
          have t1 := hB.b.s1.get
          have t5 := hB.b.s5.get
          have t8 := hB.s8.get
          have t70 := hB.s70.get
          have t71 := hB.s71.get
          have HLB := Lib.hid hB
          clear hB
          have T12 := Lib.hid h12
          have t12 := h12.get
          clear h12
          have T13 := Lib.hid h13
          have t13 := h13.get
          clear h13
          have T14 := Lib.hid h14
          have t14 := h14.get
          clear h14
          have T72 := Lib.hid h72
          have t72 := h72.get
          clear h72
          have T106 := Lib.hid h106
          have t106 := h106.get
          clear h106
          obtain ⟨im, him⟩ : ∃ im : Nat, (ind : Int) + 1 = (im : Int) := ⟨ind + 1, by omega⟩
          have HIM : Hid (im = ind + 1) := by show _ = _; omega
          have him0 : (0 : Int) ≤ (im : Int) := by omega
          have him1 : (im : Int) ≤ 7 := by omega
          cases b
          · go_upto_region 999 with (first | ((with_reducible refine wp_cond_w ?_); (conv => arg 1; simp [Act.eval, *]); first | refine condW_t ?_ | refine condW_f ?_) | ((with_reducible refine wpList_skip ?hw ?_); (case hw => simp [Region.wanted, yielded, Act.put, undef, hsz])) | (go_at_call 75; go_must (refine (print1_any _ g mini asc 32 _ _ HP1.out.st (by have := HLEN.out; omega)).mono ?_; rintro e' w2 ⟨rfl, hp2⟩; have HP2 := Lib.hid hp2; clear hp2)))
            refine Met.intro (HJ2.out _ _ ⟨_, rfl, ⟨[⟨none, [32]⟩], wsOk_sp, HP2.out⟩, lk, kp, kp, kp, kp⟩)
          · go_upto_region 999 with (first | ((with_reducible refine wp_cond_w ?_); (conv => arg 1; simp [Act.eval, *]); first | refine condW_t ?_ | refine condW_f ?_) | ((with_reducible refine wpList_skip ?hw ?_); (case hw => simp [Region.wanted, yielded, Act.put, undef, hsz])) | (go_at_call 75; go_must (refine (print1_any _ g mini asc 10 _ _ HP1.out.st (by have := HLEN.out; omega)).mono ?_; rintro e' w2 ⟨rfl, hp2⟩; have o0 := cell_blk (ke_blk hp2.ke HOB1.out (by decide) HG.out) 0; have HP2 := Lib.hid hp2; clear hp2)) | (go_at_call 74; go_must (refine (printIndent_any _ g mini asc im (by omega) _ _ HP2.out.st (by have := HLEN.out; simp only [List.length_append, List.length_cons, List.length_nil] at this ⊢; omega)).mono ?_; rintro e' w3 ⟨rfl, hp3⟩; have HP3 := Lib.hid hp3; clear hp3)))
            refine Met.intro (HJ2.out _ _ ⟨_, rfl, ⟨[⟨none, lineC im⟩], wsOk_line (by have := HIM.out; omega), ?_⟩, lk, kp, kp, kp, kp⟩)
            have e : enc (flat [(⟨none, lineC im⟩ : Ch)]) = [10] ++ List.replicate (2 * im) 32 := by rw [flat_cons, flat_nil, List.append_nil, enc_line]
            show Put _ _ _ _ _ _ _
            rw [e, ← List.append_assoc]
            exact HP2.out.trans HP3.out
      case rest =>
      intro a' W2 hcut
      obtain ⟨F5, rfl, ⟨ws, HWS, HP2⟩, hB, h12, h13, h14, h72⟩ := hcut
      clear hlim e5 hsz t0 t1 t5 t8 t70 t71 HLB t7 T7 t12 T12 t13 T13 t14 T14 t72 T72 F4
      have hsz := hB.b.sz
      have t0 := hB.b.s0.get
      have t1 := hB.b.s1.get
      have t5 := hB.b.s5.get
      have t8 := hB.s8.get
      have t70 := hB.s70.get
      have t71 := hB.s71.get
      have HLB := Lib.hid hB
      clear hB
      have T12 := Lib.hid h12
      have t12 := h12.get
      clear h12
      have T13 := Lib.hid h13
      have t13 := h13.get
      clear h13
      have T14 := Lib.hid h14
      have t14 := h14.get
      clear h14
      have T72 := Lib.hid h72
      have t72 := h72.get
      clear h72
      have HB2C := Lib.hid (ke_blk HP2.out.ke HB1C.out (by decide) HG1.out)
      have HOB2 := Lib.hid (ke_blk HP2.out.ke HOB1.out (by decide) HG.out)
      have e0 := cell_blk HB2C.out 0
      have e1 := cell_blk HB2C.out 1
      have e2 := cell_blk HB2C.out 2
      have e3 := cell_blk HB2C.out 3
      have e4 := cell_blk HB2C.out 4
      have e5 := cell_blk HB2C.out 5
      have e6 : W2.cell? ⟨b1, 6, none⟩ = some (.int .u8 (wsV t.before t.after)) := cell_blk HB2C.out 6
      have HNX : Hid (∀ t2 : T, ts[i + 1]? = some t2 → W2.cell? ⟨q, (i + 1) * 7 + 6, none⟩ = some (.int .u8 (wsV t2.before t2.after))) := by
        intro t2 h2
        obtain ⟨p2, u2, hk2⟩ := HIN.out.get h2
        have hl2 : W2.heap[q]? = w.heap[q]? := (HP2.out.ke.low q hq).trans (HP1.out.ke.low q hq)
        rw [World.cell?_of_block (w := w) (a := ⟨q, (i + 1) * 7 + 6, none⟩) hl2]
        exact hk2.cells 6 _ rfl
      obtain ⟨pa, hpa⟩ : ∃ pa : Nat, (i : Int) + 1 = (pa : Int) := ⟨i + 1, by omega⟩
      have hpae : pa = i + 1 := by omega
      have HPA := Lib.hid hpae
      have hpa0 : (0 : Int) ≤ (pa : Int) := by omega
      have hpa1 : (pa : Int) ≤ 16385 := by omega
      clear hpae
      go_upto_region 29 with (first | ((with_reducible refine wp_cond_w ?_); (conv => arg 1; simp [Act.eval, *]); first | refine condW_t ?_ | refine condW_f ?_) | ((with_reducible refine wpList_skip ?hw ?_); (case hw => simp [Region.wanted, yielded, Act.put, undef, hsz])))
      refine wp_cut (fun a' wx => ∃ T', a' = ⟨T', []⟩ ∧ W2 = wx ∧ L80 g ob (.slice (some ⟨q, 0, none⟩) ts.length c) ts.length cp T' ∧ Sl T' 7 (.bool (t.after || headBefore (ts.drop (i + 1)))) ∧ Sl T' 12 (.int .i64 cc') ∧ Sl T' 14 (.pointer (some ⟨b1, 0, none⟩)) ∧ Sl T' 72 (.int .i64 i)) ?rest ?first
      case first =>
        intro J2 K2 hJ2 hK2
        have HJ2 := Lib.hid hJ2
        clear hJ2 e0 e1 e2 e3 e4 e5
        cases ha : t.after
        · by_cases hn : i + 1 < ts.length
          · have hni : (pa : Int) < (ts.length : Int) := by omega
            obtain ⟨t2, ht2, hd2, _⟩ := drop_head hn
            have n6 := HNX.out t2 ht2
            rw [← HPA.out] at n6
            have HD2 := Lib.hid hd2
            clear hn ht2 hd2
            cases hb : t.before
            all_goals cases hb2 : t2.before
            all_goals cases ha2 : t2.after
            all_goals
              rw [ha, hb] at e6
              rw [ha2, hb2] at n6
              simp only [ws_ff, ws_ft, ws_tf, ws_tt] at e6 n6
              have HX := Lib.hid (HD2.out.trans hb2)
              have HAF := Lib.hid ha
              clear hb hb2 ha2 ha
              go_upto_region 999 with (first | ((with_reducible refine wp_cond_w ?_); (conv => arg 1; simp [Act.eval, *]); first | refine condW_t ?_ | refine condW_f ?_) | ((with_reducible refine wpList_skip ?hw ?_); (case hw => simp [Region.wanted, yielded, Act.put, undef, hsz])))
              refine Met.intro (HJ2.out _ _ ⟨_, rfl, rfl, lk, by rw [HAF.out, HX.out]; exact Sl.new (by simp [hsz]), kp, kp, kp⟩)
          · have hni : (ts.length : Int) ≤ (pa : Int) := by omega
            have hd2 : headBefore (ts.drop (i + 1)) = false := by rw [List.drop_eq_nil_of_le (by omega)]; rfl
            have HX := Lib.hid hd2
            clear hn hd2
            cases hb : t.before
            all_goals
              rw [ha, hb] at e6
              simp only [ws_ff, ws_ft, ws_tf, ws_tt] at e6
              have HAF := Lib.hid ha
              clear hb ha
              go_upto_region 999 with (first | ((with_reducible refine wp_cond_w ?_); (conv => arg 1; simp [Act.eval, *]); first | refine condW_t ?_ | refine condW_f ?_) | ((with_reducible refine wpList_skip ?hw ?_); (case hw => simp [Region.wanted, yielded, Act.put, undef, hsz])))
              refine Met.intro (HJ2.out _ _ ⟨_, rfl, rfl, lk, by rw [HAF.out, HX.out]; exact Sl.new (by simp [hsz]), kp, kp, kp⟩)
        · cases hb : t.before
          all_goals
            rw [ha, hb] at e6
            simp only [ws_ff, ws_ft, ws_tf, ws_tt] at e6
            have HAF := Lib.hid ha
            clear hb ha
            go_upto_region 999 with (first | ((with_reducible refine wp_cond_w ?_); (conv => arg 1; simp [Act.eval, *]); first | refine condW_t ?_ | refine condW_f ?_) | ((with_reducible refine wpList_skip ?hw ?_); (case hw => simp [Region.wanted, yielded, Act.put, undef, hsz])))
            refine Met.intro (HJ2.out _ _ ⟨_, rfl, rfl, lk, by rw [HAF.out]; exact Sl.new (by simp [hsz]), kp, kp, kp⟩)
      case rest =>
      intro a' wx hcut
      obtain ⟨F6, rfl, rfl, hB, h7, h12, h14, h72⟩ := hcut
      obtain ⟨has2, hh2⟩ : ∃ b, (t.after || headBefore (ts.drop (i + 1))) = b := ⟨_, rfl⟩
      rw [hh2] at h7
      have HH2 := Lib.hid hh2
      clear hh2 hsz t0 t1 t5 t8 t70 t71 HLB t12 T12 t13 T13 t14 T14 t72 T72 F5 hpa hpa0 hpa1 HNX HPA
      have hsz := hB.b.sz
      have t0 := hB.b.s0.get
      have t1 := hB.b.s1.get
      have t5 := hB.b.s5.get
      have t8 := hB.s8.get
      have t70 := hB.s70.get
      have t71 := hB.s71.get
      have HLB := Lib.hid hB
      clear hB
      have T7 := Lib.hid h7
      have t7 := h7.get
      clear h7
      have T12 := Lib.hid h12
      have t12 := h12.get
      clear h12
      have T14 := Lib.hid h14
      have t14 := h14.get
      clear h14
      have T72 := Lib.hid h72
      have t72 := h72.get
      clear h72
      go_upto_if 152 with (first | ((with_reducible refine wp_cond_w ?_); (conv => arg 1; simp [Act.eval, *]); first | refine condW_t ?_ | refine condW_f ?_) | ((with_reducible refine wpList_skip ?hw ?_); (case hw => simp [Region.wanted, yielded, Act.put, undef, hsz])))
      refine wp_cut (fun a' wx => ∃ T', a' = ⟨T', []⟩ ∧ W2 = wx ∧ L80 g ob (.slice (some ⟨q, 0, none⟩) ts.length c) ts.length cp T' ∧ Sl T' 7 (.bool has2) ∧ (∃ wsp : Int, Sl T' 15 (.int .u8 wsp) ∧ Hid (has2 = (wsp == 0))) ∧ Sl T' 12 (.int .i64 cc') ∧ Sl T' 14 (.pointer (some ⟨b1, 0, none⟩)) ∧ Sl T' 72 (.int .i64 i)) ?rest ?first
      case first =>
        intro J2 K2 hJ2 hK2
        have HJ2 := Lib.hid hJ2
        clear hJ2 e0 e1 e2 e3 e4 e5 e6
        cases has2
        · go_upto_region 999 with (first | ((with_reducible refine wp_cond_w ?_); (conv => arg 1; simp [Act.eval, *]); first | refine condW_t ?_ | refine condW_f ?_) | ((with_reducible refine wpList_skip ?hw ?_); (case hw => simp [Region.wanted, yielded, Act.put, undef, hsz])))
          refine Met.intro (HJ2.out _ _ ⟨_, rfl, rfl, lk, kp, ⟨1, nw, rfl⟩, kp, kp, kp⟩)
        · go_upto_region 999 with (first | ((with_reducible refine wp_cond_w ?_); (conv => arg 1; simp [Act.eval, *]); first | refine condW_t ?_ | refine condW_f ?_) | ((with_reducible refine wpList_skip ?hw ?_); (case hw => simp [Region.wanted, yielded, Act.put, undef, hsz])))
          refine Met.intro (HJ2.out _ _ ⟨_, rfl, rfl, lk, kp, ⟨0, nw, rfl⟩, kp, kp, kp⟩)
      case rest =>
      intro a' wx hcut
      obtain ⟨F7, rfl, rfl, hB, h7, ⟨wsp, h15, HWP⟩, h12, h14, h72⟩ := hcut
      clear hsz t0 t1 t5 t8 t70 t71 HLB t7 T7 t12 T12 t14 T14 t72 T72 F6
      have hsz := hB.b.sz
      have t0 := hB.b.s0.get
      have t1 := hB.b.s1.get
      have t5 := hB.b.s5.get
      have t8 := hB.s8.get
      have t70 := hB.s70.get
      have t71 := hB.s71.get
      have HLB := Lib.hid hB
      clear hB
      have T7 := Lib.hid h7
      have t7 := h7.get
      clear h7
      have T12 := Lib.hid h12
      have t12 := h12.get
      clear h12
      have T14 := Lib.hid h14
      have t14 := h14.get
      clear h14
      have T15 := Lib.hid h15
      have t15 := h15.get
      clear h15
      have T72 := Lib.hid h72
      have t72 := h72.get
      clear h72
      obtain ⟨v2, hat2⟩ := HP2.out.st.at_
      have hmaps := hat2.pr.maps
      clear hat2
      obtain ⟨bs2, hbs2⟩ : ∃ x, x = bs ++ enc (flat pre) ++ enc (flat ws) := ⟨_, rfl⟩
      rw [← hbs2] at HP2
      have HBS2 := Lib.hid hbs2
      have HL2 : Hid (bs2.length + 16 * t.text.length + 8192 + cost t.kids + 1048000 ≤ 140737488355328) := by
        have h1 := HLEN.out
        have h2 := HWS.out.size
        show _ ≤ _
        rw [hbs2, List.length_append]; omega
      clear hbs2
      have HV := Lib.hid (good_v (ok_good HO1.out))
      have HLOW := Lib.hid (good_l (ok_good HO1.out))
      have HTX : Hid (t.text.length ≤ 8388608) := by
        have h1 := cost_text (List.mem_of_getElem? HTI.out)
        have h2 := HC.out
        show _ ≤ _
        omega
      have HSS : Hid ((⟨⟨enc t.text⟩⟩ : ByteArray).size ≤ 2147483647) := by
        have h1 := enc_len_le t.text
        have h2 := HTX.out
        show (enc t.text).length ≤ _
        omega
      have HID : Hid (∀ m may cs, (∀ c ∈ cs, Valid c) → ∀ b : List UInt8, b.length + 16 * cs.length ≤ bs2.length + 16 * t.text.length + 16 → (b ++ enc (ident asc may m cs)).length + 4000 ≤ 140737488355328) := by
        intro m may cs h1 b h3
        have h4 := ident_len (asc := asc) (may := may) (m := m) h1
        have h5 := HL2.out
        rw [List.length_append]; omega
      have HE2 : Hid (Env F W0 W2) := (HEW.out.ke HP1.out.ke).ke HP2.out.ke
      have HST2 := Lib.hid HP2.out.st
      go_upto_block 4 with (first | ((with_reducible refine wp_cond_w ?_); (conv => arg 1; simp [Act.eval, *]); first | refine condW_t ?_ | refine condW_f ?_) | ((with_reducible refine wpList_skip ?hw ?_); (case hw => simp [Region.wanted, yielded, Act.put, undef, hsz])))
      refine wp_cut (fun a' wx => ∃ T', a' = ⟨T', []⟩ ∧ (∃ out, Hid (Own asc has2 t out) ∧ Hid ((enc out).length ≤ 16 * t.text.length + 8) ∧ Hid (Put W0.heap.size g mini asc (bs2 ++ enc out) W2 wx)) ∧ L80 g ob (.slice (some ⟨q, 0, none⟩) ts.length c) ts.length cp T' ∧ Sl T' 7 (.bool has2) ∧ Sl T' 12 (.int .i64 cc') ∧ Sl T' 14 (.pointer (some ⟨b1, 0, none⟩)) ∧ Sl T' 72 (.int .i64 i)) ?rest ?first
      case first =>
        intro J2 K2 hJ2 hK2
        have HJ2 := Lib.hid hJ2
        clear hJ2 hmaps
        rcases kind_ways _ HKK.out with ⟨k1, HKE⟩ | ⟨k1, k2, k3, HKE⟩ | ⟨k1, k2, k3, k4, HKE⟩ | ⟨k1, k2, k3, k4, k5, HKE⟩ | ⟨k1, k2, k3, k4, k5, k6, HKE⟩ | ⟨k1, k2, k3, k4, k5, k6, k7, HKE⟩ | ⟨⟨k1, k2, k3, k4, k5, k6, k7, k8, k9⟩, HKE⟩
        · go_upto_region 999 with (first | ((with_reducible refine wp_cond_w ?_); (conv => arg 1; simp [Act.eval, *]); first | refine condW_t ?_ | refine condW_f ?_) | ((with_reducible refine wpList_skip ?hw ?_); (case hw => simp [Region.wanted, yielded, Act.put, undef, hsz])) | (go_at_call 82; go_must (refine (printIdent_any (F := F) g mini asc has2 0 (by decide) (by decide) wsp HWP.out t.text HV.out HLOW.out ⟨⟨enc t.text⟩⟩ rfl _ HE2.out bs2 HST2.out HSS.out ?hl).mono ?_; (case hl => have h9 := HID.out 0 has2 t.text HV.out (bs2) (by omega); first | omega | (simp only [Int.toNat_zero, Int.toNat_one] at *; omega)); rintro e' w3 ⟨rfl, hp3⟩; have HP3 := Lib.hid hp3; clear hp3)))
          refine Met.intro (HJ2.out _ _ ⟨_, rfl, ⟨_, .ident HKE.out, Nat.le_trans (ident_len HV.out) (by omega), HP3.out⟩, lk, kp, kp, kp, kp⟩)
        · go_upto_region 999 with (first | ((with_reducible refine wp_cond_w ?_); (conv => arg 1; simp [Act.eval, *]); first | refine condW_t ?_ | refine condW_f ?_) | ((with_reducible refine wpList_skip ?hw ?_); (case hw => simp [Region.wanted, yielded, Act.put, undef, hsz])) | (go_at_call 82; go_must (refine (printIdent_any (F := F) g mini asc has2 0 (by decide) (by decide) wsp HWP.out t.text HV.out HLOW.out ⟨⟨enc t.text⟩⟩ rfl _ HE2.out bs2 HST2.out HSS.out ?hl).mono ?_; (case hl => have h9 := HID.out 0 has2 t.text HV.out (bs2) (by omega); first | omega | (simp only [Int.toNat_zero, Int.toNat_one] at *; omega)); rintro e' w3 ⟨rfl, hp3⟩; have HP3 := Lib.hid hp3; clear hp3)) | (go_at_call 75; go_must (refine (print1_any _ g mini asc 40 _ _ HP3.out.st (by have h9 := HID.out 0 has2 t.text HV.out bs2 (by omega); have e9 : Int.toNat 0 = 0 := rfl; rw [e9]; omega)).mono ?_; rintro e' w2 ⟨rfl, hp2⟩; have HP4 := Lib.hid hp2; clear hp2)))
          refine Met.intro (HJ2.out _ _ ⟨_, rfl, ⟨_, .func has2 HKE.out, ?_, ?_⟩, lk, kp, kp, kp, kp⟩)
          · have h9 := ident_len (asc := asc) (may := has2) (m := 0) HV.out
            show _ ≤ _
            rw [enc_append, List.length_append]
            have e : (enc ([40] : List Int)).length = 1 := rfl
            omega
          · rw [enc_append, ← List.append_assoc]
            exact HP3.out.trans HP4.out
        · obtain ⟨hu0, hu1, hua⟩ := ok_dim HO1.out HKE.out
          obtain ⟨ht1, ht2⟩ := enc_ascii_take (u := t.unit) HV.out hua (by omega)
          have huu : u' = (t.unit : Int) := HUNIT.out HKE.out
          subst huu
          have HSU : Hid (t.unit ≤ (⟨⟨enc t.text⟩⟩ : ByteArray).size) := by
            have := len_le_enc t.text
            show _ ≤ (enc t.text).length
            omega
          have HX0 : Hid ((ByteArray.extract ⟨⟨enc t.text⟩⟩ 0 t.unit).data.toList = enc (t.text.take t.unit)) := by
            show _ = _
            rw [extract_list, ← ht1, List.drop_zero]
          have HY0 : Hid ((ByteArray.extract ⟨⟨enc t.text⟩⟩ t.unit (⟨⟨enc t.text⟩⟩ : ByteArray).size).data.toList = enc (t.text.drop t.unit)) := by
            show _ = _
            rw [Lib.extract_to_end, ← ht2]
          have HLX : Hid ((enc (t.text.take t.unit)).length = t.unit) := by
            show _ = _
            rw [enc_ascii_len (fun c hc => hua c hc), List.length_take]; omega
          have HU1 := Lib.hid hu1
          have HVT := Lib.hid (fun c (hc : c ∈ t.text.take t.unit) => HV.out c (List.mem_of_mem_take hc))
          have HVD := Lib.hid (fun c (hc : c ∈ t.text.drop t.unit) => HV.out c (List.mem_of_mem_drop hc))
          clear ht1 ht2 hu0 hu1 hua
          go_upto_if 214 with (first | ((with_reducible refine wp_cond_w ?_); (conv => arg 1; simp [Act.eval, *]); first | refine condW_t ?_ | refine condW_f ?_) | ((with_reducible refine wpList_skip ?hw ?_); (case hw => simp [Region.wanted, yielded, Act.put, undef, hsz])) | (go_at_call 110; go_must (refine (dimValue_any (.pointer px) rfl ⟨⟨enc t.text⟩⟩ 0 0 t.kind (wsV t.before t.after) t.unit HSU.out HSS.out _).mono ?_; rintro e' wa ⟨rfl, hba⟩; generalize hX : ByteArray.extract ⟨⟨enc t.text⟩⟩ 0 t.unit = X at HX0 ⊢; clear hX; have HBA := Lib.hid hba; clear hba)) | (go_at_call 75; go_must (refine (print_any _ g mini asc X _ bs2 (HST2.out.grow HBA.out) (by rw [size_enc HX0.out, HLX.out]; have h8 := HL2.out; have h9 := HU1.out; omega)).mono ?_; rintro e' wb ⟨rfl, hpb⟩; have HPB := Lib.hid hpb; clear hpb)) | (go_at_call 111; go_must (refine (containsE (t.text.take t.unit) HVT.out X HX0.out _).mono ?_; rintro e' wc ⟨⟨b, rfl, hbE⟩, hbc⟩; have f0 := cell_blk (blk_below hbc (ke_blk HPB.out.ke (blk_below HBA.out HB2C.out) (by decide) HG1.out)) 0; have f1 := cell_blk (blk_below hbc (ke_blk HPB.out.ke (blk_below HBA.out HB2C.out) (by decide) HG1.out)) 1; have f2 := cell_blk (blk_below hbc (ke_blk HPB.out.ke (blk_below HBA.out HB2C.out) (by decide) HG1.out)) 2; have f3 := cell_blk (blk_below hbc (ke_blk HPB.out.ke (blk_below HBA.out HB2C.out) (by decide) HG1.out)) 3; have f4 := cell_blk (blk_below hbc (ke_blk HPB.out.ke (blk_below HBA.out HB2C.out) (by decide) HG1.out)) 4; have f5 := cell_blk (blk_below hbc (ke_blk HPB.out.ke (blk_below HBA.out HB2C.out) (by decide) HG1.out)) 5; have f6 := cell_blk (blk_below hbc (ke_blk HPB.out.ke (blk_below HBA.out HB2C.out) (by decide) HG1.out)) 6; have HBE := Lib.hid hbE; have HBC := Lib.hid hbc; clear hbE hbc)))
          cases b
          · go_upto_region 999 with (first | ((with_reducible refine wp_cond_w ?_); (conv => arg 1; simp [Act.eval, *]); first | refine condW_t ?_ | refine condW_f ?_) | ((with_reducible refine wpList_skip ?hw ?_); (case hw => simp [Region.wanted, yielded, Act.put, undef, hsz])) | (go_at_call 112; go_must (refine (dimUnit_any (.pointer px) rfl ⟨⟨enc t.text⟩⟩ 0 0 t.kind (wsV t.before t.after) t.unit HSU.out HSS.out _).mono ?_; rintro e' wd ⟨rfl, hbd⟩; generalize hY : ByteArray.extract ⟨⟨enc t.text⟩⟩ t.unit (⟨⟨enc t.text⟩⟩ : ByteArray).size = Y at HY0 ⊢; clear hY; have HBD := Lib.hid hbd; clear hbd)) | (go_at_call 82; go_must (refine (printIdent_any (F := F) g mini asc has2 2 (by decide) (by decide) wsp HWP.out (t.text.drop t.unit) HVD.out (fun ha c hc => HLOW.out ha c (List.mem_of_mem_drop hc)) Y HY0.out _ ((((HE2.out.below HBA.out).ke HPB.out.ke).below HBC.out).below HBD.out) (bs2 ++ X.data.toList) ((HPB.out.st.grow HBC.out).grow HBD.out) ?hs ?hl).mono ?_; (case hs => rw [size_enc HY0.out]; have h8 := enc_len_le (t.text.drop t.unit); have h9 := HTX.out; rw [List.length_drop] at h8; omega); (case hl => have h9 := HID.out 2 has2 (t.text.drop t.unit) HVD.out (bs2 ++ X.data.toList) (by rw [List.length_append, HX0.out, HLX.out, List.length_drop]; have := HU1.out; omega); have e9 : Int.toNat 2 = 2 := rfl; rw [e9]; omega); rintro e' we ⟨rfl, hpe⟩; have HPE := Lib.hid hpe; clear hpe)))
            refine Met.intro (HJ2.out _ _ ⟨_, rfl, ⟨_, .dim HKE.out, ?_, ?_⟩, lk, kp, kp, kp, kp⟩)
            · have h8 := ident_len (asc := asc) (may := has2) (m := unitMode (t.text.take t.unit)) HVD.out
              have h9 := HU1.out
              rw [List.length_drop] at h8
              show _ ≤ _
              rw [enc_append, List.length_append, HLX.out]; omega
            · rw [unit_mode _ false (by simpa using HBE.out), enc_append, ← List.append_assoc, ← HX0.out]
              exact (Put.of_below HST2.out HBA.out HPB.out).trans (Put.of_below HPB.out.st HBC.out (Put.of_below (HPB.out.st.grow HBC.out) HBD.out HPE.out))
          · go_upto_region 999 with (first | ((with_reducible refine wp_cond_w ?_); (conv => arg 1; simp [Act.eval, *]); first | refine condW_t ?_ | refine condW_f ?_) | ((with_reducible refine wpList_skip ?hw ?_); (case hw => simp [Region.wanted, yielded, Act.put, undef, hsz])) | (go_at_call 112; go_must (refine (dimUnit_any (.pointer px) rfl ⟨⟨enc t.text⟩⟩ 0 0 t.kind (wsV t.before t.after) t.unit HSU.out HSS.out _).mono ?_; rintro e' wd ⟨rfl, hbd⟩; generalize hY : ByteArray.extract ⟨⟨enc t.text⟩⟩ t.unit (⟨⟨enc t.text⟩⟩ : ByteArray).size = Y at HY0 ⊢; clear hY; have HBD := Lib.hid hbd; clear hbd)) | (go_at_call 82; go_must (refine (printIdent_any (F := F) g mini asc has2 3 (by decide) (by decide) wsp HWP.out (t.text.drop t.unit) HVD.out (fun ha c hc => HLOW.out ha c (List.mem_of_mem_drop hc)) Y HY0.out _ ((((HE2.out.below HBA.out).ke HPB.out.ke).below HBC.out).below HBD.out) (bs2 ++ X.data.toList) ((HPB.out.st.grow HBC.out).grow HBD.out) ?hs ?hl).mono ?_; (case hs => rw [size_enc HY0.out]; have h8 := enc_len_le (t.text.drop t.unit); have h9 := HTX.out; rw [List.length_drop] at h8; omega); (case hl => have h9 := HID.out 3 has2 (t.text.drop t.unit) HVD.out (bs2 ++ X.data.toList) (by rw [List.length_append, HX0.out, HLX.out, List.length_drop]; have := HU1.out; omega); have e9 : Int.toNat 3 = 3 := rfl; rw [e9]; omega); rintro e' we ⟨rfl, hpe⟩; have HPE := Lib.hid hpe; clear hpe)))
            refine Met.intro (HJ2.out _ _ ⟨_, rfl, ⟨_, .dim HKE.out, ?_, ?_⟩, lk, kp, kp, kp, kp⟩)
            · have h8 := ident_len (asc := asc) (may := has2) (m := unitMode (t.text.take t.unit)) HVD.out
              have h9 := HU1.out
              rw [List.length_drop] at h8
              show _ ≤ _
              rw [enc_append, List.length_append, HLX.out]; omega
            · rw [unit_mode _ true (by simpa using HBE.out), enc_append, ← List.append_assoc, ← HX0.out]
              exact (Put.of_below HST2.out HBA.out HPB.out).trans (Put.of_below HPB.out.st HBC.out (Put.of_below (HPB.out.st.grow HBC.out) HBD.out HPE.out))
        · go_upto_region 999 with (first | ((with_reducible refine wp_cond_w ?_); (conv => arg 1; simp [Act.eval, *]); first | refine condW_t ?_ | refine condW_f ?_) | ((with_reducible refine wpList_skip ?hw ?_); (case hw => simp [Region.wanted, yielded, Act.put, undef, hsz])) | (go_at_call 75; go_must (refine (print1_any _ g mini asc 64 _ _ HST2.out (by have := HL2.out; omega)).mono ?_; rintro e' w2 ⟨rfl, hp2⟩; have f1 := cell_blk (ke_blk hp2.ke HB2C.out (by decide) HG1.out) 1; have HP4 := Lib.hid hp2; clear hp2)) | (go_at_call 82; go_must (refine (printIdent_any (F := F) g mini asc has2 0 (by decide) (by decide) wsp HWP.out t.text HV.out HLOW.out ⟨⟨enc t.text⟩⟩ rfl _ (HE2.out.ke HP4.out.ke) (bs2 ++ [64]) HP4.out.st HSS.out ?hl).mono ?_; (case hl => have h9 := HID.out 0 has2 t.text HV.out ((bs2 ++ [64])) (by rw [List.length_append]; simp; omega); first | omega | (simp only [Int.toNat_zero, Int.toNat_one] at *; omega)); rintro e' w3 ⟨rfl, hp3⟩; have HP3 := Lib.hid hp3; clear hp3)))
          refine Met.intro (HJ2.out _ _ ⟨_, rfl, ⟨_, .atk HKE.out, ?_, ?_⟩, lk, kp, kp, kp, kp⟩)
          · have h9 := ident_len (asc := asc) (may := has2) (m := 0) HV.out
            show _ ≤ _
            rw [enc_length_cons]
            have e : wd 64 = 1 := rfl
            omega
          · have e : enc (64 :: ident asc has2 0 t.text) = [64] ++ enc (ident asc has2 0 t.text) := rfl
            rw [e, ← List.append_assoc]
            exact HP4.out.trans HP3.out
        · go_upto_region 999 with (first | ((with_reducible refine wp_cond_w ?_); (conv => arg 1; simp [Act.eval, *]); first | refine condW_t ?_ | refine condW_f ?_) | ((with_reducible refine wpList_skip ?hw ?_); (case hw => simp [Region.wanted, yielded, Act.put, undef, hsz])) | (go_at_call 75; go_must (refine (print1_any _ g mini asc 35 _ _ HST2.out (by have := HL2.out; omega)).mono ?_; rintro e' w2 ⟨rfl, hp2⟩; have f1 := cell_blk (ke_blk hp2.ke HB2C.out (by decide) HG1.out) 1; have HP4 := Lib.hid hp2; clear hp2)) | (go_at_call 82; go_must (refine (printIdent_any (F := F) g mini asc has2 1 (by decide) (by decide) wsp HWP.out t.text HV.out HLOW.out ⟨⟨enc t.text⟩⟩ rfl _ (HE2.out.ke HP4.out.ke) (bs2 ++ [35]) HP4.out.st HSS.out ?hl).mono ?_; (case hl => have h9 := HID.out 1 has2 t.text HV.out ((bs2 ++ [35])) (by rw [List.length_append]; simp; omega); first | omega | (simp only [Int.toNat_zero, Int.toNat_one] at *; omega)); rintro e' w3 ⟨rfl, hp3⟩; have HP3 := Lib.hid hp3; clear hp3)))
          refine Met.intro (HJ2.out _ _ ⟨_, rfl, ⟨_, .hash HKE.out, ?_, ?_⟩, lk, kp, kp, kp, kp⟩)
          · have h9 := ident_len (asc := asc) (may := has2) (m := 1) HV.out
            show _ ≤ _
            rw [enc_length_cons]
            have e : wd 35 = 1 := rfl
            omega
          · have e : enc (35 :: ident asc has2 1 t.text) = [35] ++ enc (ident asc has2 1 t.text) := rfl
            rw [e, ← List.append_assoc]
            exact HP4.out.trans HP3.out
        · go_upto_region 999 with (first | ((with_reducible refine wp_cond_w ?_); (conv => arg 1; simp [Act.eval, *]); first | refine condW_t ?_ | refine condW_f ?_) | ((with_reducible refine wpList_skip ?hw ?_); (case hw => simp [Region.wanted, yielded, Act.put, undef, hsz])) | (go_at_call 78; go_must (refine (printQuoted_any (F := F) g mini asc 0 t.text HV.out HLOW.out ⟨⟨enc t.text⟩⟩ rfl HSS.out _ HE2.out bs2 HST2.out (by have := HL2.out; omega)).mono ?_; rintro e' w3 ⟨rfl, hp3⟩; have HP3 := Lib.hid hp3; clear hp3)))
          obtain ⟨q9, hq9, out9, ho9, hl9, hp9⟩ := HP3.out
          refine Met.intro (HJ2.out _ _ ⟨_, rfl, ⟨_, .str q9 out9 HKE.out hq9 ho9, enc_q hq9 hl9, hp9⟩, lk, kp, kp, kp, kp⟩)
        · go_upto_region 999 with (first | ((with_reducible refine wp_cond_w ?_); (conv => arg 1; simp [Act.eval, *]); first | refine condW_t ?_ | refine condW_f ?_) | ((with_reducible refine wpList_skip ?hw ?_); (case hw => simp [Region.wanted, yielded, Act.put, undef, hsz])) | (go_at_call 75; go_must (refine (print_any _ g mini asc ⟨⟨enc t.text⟩⟩ _ bs2 HST2.out (by have h8 := HL2.out; have h9 := enc_len_le t.text; show bs2.length + (enc t.text).length ≤ _; omega)).mono ?_; rintro e' w3 ⟨rfl, hp3⟩; have HP3 := Lib.hid hp3; clear hp3)))
          refine Met.intro (HJ2.out _ _ ⟨_, rfl, ⟨t.text, .plain HKE.out.1 HKE.out.2.1 HKE.out.2.2.1 HKE.out.2.2.2.1 HKE.out.2.2.2.2.1 HKE.out.2.2.2.2.2, Nat.le_trans (enc_len_le _) (by omega), HP3.out⟩, lk, kp, kp, kp, kp⟩)
      case rest =>
      intro a' W3 hcut
      obtain ⟨F8, rfl, ⟨out, HOUT, HOL, HP3⟩, hB, h7, h12, h14, h72⟩ := hcut
      clear e0 e1 e2 e3 e4 e5 e6 hmaps hsz t0 t1 t5 t8 t70 t71 HLB t7 T7 t12 T12 t14 T14 t15 T15 t72 T72 F7
      have hsz := hB.b.sz
      have t0 := hB.b.s0.get
      have t1 := hB.b.s1.get
      have t5 := hB.b.s5.get
      have t8 := hB.s8.get
      have t70 := hB.s70.get
      have t71 := hB.s71.get
      have HLB := Lib.hid hB
      clear hB
      have T7 := Lib.hid h7
      have t7 := h7.get
      clear h7
      have T12 := Lib.hid h12
      have t12 := h12.get
      clear h12
      have T14 := Lib.hid h14
      have t14 := h14.get
      clear h14
      have T72 := Lib.hid h72
      have t72 := h72.get
      clear h72
      have HB3C := Lib.hid (ke_blk HP3.out.ke HB2C.out (by decide) HG1.out)
      have HOB3 := Lib.hid (ke_blk HP3.out.ke HOB2.out (by decide) HG.out)
      have e0 : W3.cell? ⟨b1, 0, none⟩ = some (.pointer px) := cell_blk HB3C.out 0
      have e5 : W3.cell? ⟨b1, 5, none⟩ = some (.int .u8 t.kind) := cell_blk HB3C.out 5
      have o2 : W3.cell? ⟨ob, 2, none⟩ = some (.bool dl) := cell_blk HOB3.out 2
      have HE3 : Hid (Env F W0 W3) := HE2.out.ke HP3.out.ke
      have HPW3 : Hid (Put W0.heap.size g mini asc (bs2 ++ enc out) w W3) := (HP1.out.trans HP2.out).trans HP3.out
      clear HB1 HB1C HB2C HE2 HOB1 HOB2 HOBR
      by_cases ho : opens t.kind
      · obtain ⟨p, v', hpe, hp, hcell, htk'⟩ := HKIDS.out ho
        injection hpe with hpe
        subst hpe
        have HCELL : Hid (∀ Wx, Ke W0.heap.size g w Wx → Wx.cell? ⟨p, 0, none⟩ = some v') := by
          intro Wx hx
          rw [World.cell?_of_block (w := w) (a := ⟨p, 0, none⟩) (hx.low p hp)]; exact hcell
        have c0 := HCELL.out _ HPW3.out.ke
        have htk3 := tks_keep HPW3.out.ke htk'
        have HTKW := Lib.hid htk'
        have HPC := Lib.hid hp
        have HCC := Lib.hid hcell
        have HKLN : Hid (t.kids.length ≤ 16384) := by
          have h1 := cost_text (List.mem_of_getElem? HTI.out)
          have h2 := HC.out
          have h4 : 8192 * t.kids.length ≤ cost t.kids := by
            have : ∀ ts : List T, 8192 * ts.length ≤ cost ts := by
              intro ts
              induction ts with
              | nil => simp
              | cons t r ih => rw [cost_cons, List.length_cons]; omega
            exact this _
          show _ ≤ _; omega
        have HPER : Hid (Calls Tryz.prog 109 #[.agg (tkA (some ⟨p, 0, none⟩) ⟨⟨enc t.text⟩⟩ u' t.kind (wsV t.before t.after))] W3 (RetPer W3)) := by
          cases hk27 : (t.kind == 27)
          · exact period_no _ _ _ _ _ hk27 _
          · have hk : t.kind = 27 := beq_iff_eq.1 hk27
            rw [hk]
            exact period_func (F := F) (W0 := W0) p ⟨⟨enc t.text⟩⟩ HSS.out u' _ v' t.kids HKLN.out (fun b => b < W0.heap.size) W3 HE3.out c0 (fun b hb => Nat.lt_of_lt_of_le hb HPW3.out.st.base) htk3
        have HO := Lib.hid ho
        clear hcell htk' htk3 ho hp
        have e1 : W3.cell? ⟨b1, 1, none⟩ = some (.string ⟨⟨enc t.text⟩⟩) := cell_blk HB3C.out 1
        have e2 : W3.cell? ⟨b1, 2, none⟩ = some (.int .i32 0) := cell_blk HB3C.out 2
        have e3 : W3.cell? ⟨b1, 3, none⟩ = some (.int .u32 0) := cell_blk HB3C.out 3
        have e4 : W3.cell? ⟨b1, 4, none⟩ = some (.int .u16 u') := cell_blk HB3C.out 4
        have e6 : W3.cell? ⟨b1, 6, none⟩ = some (.int .u8 (wsV t.before t.after)) := cell_blk HB3C.out 6
        go_upto_region 82 with (first | ((with_reducible refine wp_cond_w ?_); (conv => arg 1; simp [Act.eval, *]); first | refine condW_t ?_ | refine condW_f ?_) | ((with_reducible refine wpList_skip ?hw ?_); (case hw => simp [Region.wanted, yielded, Act.put, undef, hsz])))
        refine wp_cut (fun a' wx => ∃ T', a' = ⟨T', []⟩ ∧ W3 = wx ∧ L80 g ob (.slice (some ⟨q, 0, none⟩) ts.length c) ts.length cp T' ∧ Sl T' 7 (.bool has2) ∧ Sl T' 12 (.int .i64 cc') ∧ Sl T' 14 (.pointer (some ⟨b1, 0, none⟩)) ∧ Sl T' 23 (.int .u8 0) ∧ Sl T' 72 (.int .i64 i) ∧ ∃ b : Bool, Sl T' 323 (.bool b) ∧ Hid (b = true → dl = true)) ?rest ?first
        case first =>
          intro J2 K2 hJ2 hK2
          have HJ2 := Lib.hid hJ2
          clear hJ2
          rcases Nat.eq_zero_or_pos cp with h0 | h0
          · have hc0 : (cp : Int) ≤ 0 := by omega
            clear h0
            go_upto_region 999 with (first | ((with_reducible refine wp_cond_w ?_); (conv => arg 1; simp [Act.eval, *]); first | refine condW_t ?_ | refine condW_f ?_) | ((with_reducible refine wpList_skip ?hw ?_); (case hw => simp [Region.wanted, yielded, Act.put, undef, hsz])))
            refine Met.intro (HJ2.out _ _ ⟨_, rfl, rfl, lk, kp, kp, kp, nw, kp, false, nw, (fun h => by cases h)⟩)
          · have hc0 : (0 : Int) < (cp : Int) := by omega
            clear h0
            cases hd : dl
            · rw [hd] at o2
              have HDL := Lib.hid hd
              clear hd
              go_upto_region 999 with (first | ((with_reducible refine wp_cond_w ?_); (conv => arg 1; simp [Act.eval, *]); first | refine condW_t ?_ | refine condW_f ?_) | ((with_reducible refine wpList_skip ?hw ?_); (case hw => simp [Region.wanted, yielded, Act.put, undef, hsz])))
              refine Met.intro (HJ2.out _ _ ⟨_, rfl, rfl, lk, kp, kp, kp, nw, kp, false, nw, (fun h => by cases h)⟩)
            · rw [hd] at o2
              have HDL := Lib.hid hd
              clear hd
              go_upto_region 999 with (first | ((with_reducible refine wp_cond_w ?_); (conv => arg 1; simp [Act.eval, *]); first | refine condW_t ?_ | refine condW_f ?_) | ((with_reducible refine wpList_skip ?hw ?_); (case hw => simp [Region.wanted, yielded, Act.put, undef, hsz])))
              refine Met.intro (HJ2.out _ _ ⟨_, rfl, rfl, lk, kp, kp, kp, nw, kp, true, nw, fun _ => HDL.out⟩)
        case rest =>
        intro a' wx hcut
        obtain ⟨F9, rfl, rfl, hB, h7, h12, h14, h23, h72, b, h323, HBD⟩ := hcut
        clear hsz t0 t1 t5 t8 t70 t71 HLB t7 T7 t12 T12 t14 T14 t72 T72 F8
        have hsz := hB.b.sz
        have t0 := hB.b.s0.get
        have t1 := hB.b.s1.get
        have t5 := hB.b.s5.get
        have t8 := hB.s8.get
        have t70 := hB.s70.get
        have t71 := hB.s71.get
        have HLB := Lib.hid hB
        clear hB
        have T7 := Lib.hid h7
        have t7 := h7.get
        clear h7
        have T12 := Lib.hid h12
        have t12 := h12.get
        clear h12
        have T14 := Lib.hid h14
        have t14 := h14.get
        clear h14
        have T23 := Lib.hid h23
        have t23 := h23.get
        clear h23
        have T72 := Lib.hid h72
        have t72 := h72.get
        clear h72
        have T323 := Lib.hid h323
        have t323 := h323.get
        clear h323
        go_upto_if 323 with (first | ((with_reducible refine wp_cond_w ?_); (conv => arg 1; simp [Act.eval, *]); first | refine condW_t ?_ | refine condW_f ?_) | ((with_reducible refine wpList_skip ?hw ?_); (case hw => simp [Region.wanted, yielded, Act.put, undef, hsz])))
        refine wp_cut (fun a' wx => ∃ T', a' = ⟨T', []⟩ ∧ Hid (Below W3.heap.size W3 wx) ∧ L80 g ob (.slice (some ⟨q, 0, none⟩) ts.length c) ts.length cp T' ∧ Sl T' 7 (.bool has2) ∧ Sl T' 12 (.int .i64 cc') ∧ Sl T' 14 (.pointer (some ⟨b1, 0, none⟩)) ∧ Sl T' 72 (.int .i64 i) ∧ ∃ pc : Nat, pc ≤ 255 ∧ Sl T' 23 (.int .u8 (pc : Int)) ∧ Hid (0 < pc → dl = true)) ?rest ?first
        case first =>
          intro J2 K2 hJ2 hK2
          have HJ2 := Lib.hid hJ2
          clear hJ2
          cases b
          · go_upto_region 999 with (first | ((with_reducible refine wp_cond_w ?_); (conv => arg 1; simp [Act.eval, *]); first | refine condW_t ?_ | refine condW_f ?_) | ((with_reducible refine wpList_skip ?hw ?_); (case hw => simp [Region.wanted, yielded, Act.put, undef, hsz])))
            refine Met.intro (HJ2.out _ _ ⟨_, rfl, Below.refl _ _, lk, kp, kp, kp, kp, 0, by omega, kp, fun h => absurd h (by omega)⟩)
          · go_upto_region 999 with (first | ((with_reducible refine wp_cond_w ?_); (conv => arg 1; simp [Act.eval, *]); first | refine condW_t ?_ | refine condW_f ?_) | ((with_reducible refine wpList_skip ?hw ?_); (case hw => simp [Region.wanted, yielded, Act.put, undef, hsz])) | (go_at_call 109; go_must (refine HPER.out.mono ?_; rintro e' w2 ⟨pp, hpp, rfl, hb2⟩; have HB2 := Lib.hid hb2; clear hb2)))
            refine Met.intro (HJ2.out _ _ ⟨_, rfl, HB2.out, lk, kp, kp, kp, kp, pp, hpp, nw, fun _ => HBD.out (by trivial)⟩)
        case rest =>
        intro a' W4 hcut
        obtain ⟨F10, rfl, HB4, hB, h7, h12, h14, h72, pc, hpc, h23, HPD⟩ := hcut
        clear c0 e0 e1 e2 e3 e4 e5 e6 o2 hsz t0 t1 t5 t8 t70 t71 HLB t7 T7 t12 T12 t14 T14 t23 T23 t72 T72 t323 T323 F9
        have hsz := hB.b.sz
        have t0 := hB.b.s0.get
        have t1 := hB.b.s1.get
        have t5 := hB.b.s5.get
        have t8 := hB.s8.get
        have t70 := hB.s70.get
        have t71 := hB.s71.get
        have HLB := Lib.hid hB
        clear hB
        have T7 := Lib.hid h7
        have t7 := h7.get
        clear h7
        have T12 := Lib.hid h12
        have t12 := h12.get
        clear h12
        have T14 := Lib.hid h14
        have t14 := h14.get
        clear h14
        have T23 := Lib.hid h23
        have t23 := h23.get
        clear h23
        have T72 := Lib.hid h72
        have t72 := h72.get
        clear h72
        have HB4C := Lib.hid (blk_below HB4.out HB3C.out)
        have HOB4 := Lib.hid (blk_below HB4.out HOB3.out)
        have HE4 : Hid (Env F W0 W4) := HE3.out.below HB4.out
        have HPW4 : Hid (Put W0.heap.size g mini asc (bs2 ++ enc out) w W4) := HPW3.out.trans ⟨HPW3.out.st.grow HB4.out, Ke.of_below HB4.out HPW3.out.st.base⟩
        clear HE3 HPER HB3C
        have HBB1 : Hid (W0.heap.size ≤ ob) := Nat.le_trans HS0.out.base HOBW.out
        obtain ⟨bp, hbp⟩ : ∃ b : Bool, decide ((0 : Int) < (pc : Int)) = b := ⟨_, rfl⟩
        have hbp2 : decide (0 < pc) = bp := by rw [← hbp]; simp
        have HBP : Hid (bp = true ↔ 0 < pc) := by show _ ↔ _; rw [← hbp2]; simp
        have hpc0 : (0 : Int) ≤ (pc : Int) := by omega
        have hpc1 : (pc : Int) ≤ 255 := by omega
        have HIND2 : Hid (bp = true → ind + 1 ≤ 6) := fun h => by
          have h1 := HPD.out (HBP.out.1 h)
          have h2 := HIND.out
          rw [h1] at h2
          simpa using h2
        have HLW4 : Hid ((bs2 ++ enc out).length + 8000 + cost t.kids ≤ 140737488355328) := by
          have h1 := HOL.out
          have h3 := HL2.out
          show _ ≤ _
          rw [List.length_append]; omega
        have HLW5 : Hid ((bs2 ++ enc out).length + cost t.kids + 1050000 ≤ 140737488355328) := by
          have h1 := HOL.out
          have h3 := HL2.out
          show _ ≤ _
          rw [List.length_append]; omega
        go_upto_if 327 with (first | ((with_reducible refine wp_cond_w ?_); (conv => arg 1; simp [Act.eval, *]); first | refine condW_t ?_ | refine condW_f ?_) | ((with_reducible refine wpList_skip ?hw ?_); (case hw => simp [Region.wanted, yielded, Act.put, undef, hsz])))
        refine wp_cut (fun a' wx => ∃ T', a' = ⟨T', []⟩ ∧ (∃ nl, Hid (NlOk nl) ∧ Hid (Put W0.heap.size g mini asc (bs2 ++ enc out ++ enc (flat nl)) w wx)) ∧ (∃ ic : Nat, Hid (ic = ind + (if bp then 1 else 0)) ∧ Hid (wx.heap[ob]? = some (.cells #[.int .i32 (ic : Int), .int .u8 (pd : Int), .bool dl] 213 (0, 0)))) ∧ Hid (wx.heap[b1]? = some (.cells #[.pointer (some ⟨p, 0, none⟩), .string ⟨⟨enc t.text⟩⟩, .int .i32 0, .int .u32 0, .int .u16 u', .int .u8 t.kind, .int .u8 (wsV t.before t.after)] 105 (0, 0))) ∧ Hid (Env F W0 wx) ∧ L80 g ob (.slice (some ⟨q, 0, none⟩) ts.length c) ts.length cp T' ∧ Sl T' 7 (.bool has2) ∧ Sl T' 12 (.int .i64 cc') ∧ Sl T' 14 (.pointer (some ⟨b1, 0, none⟩)) ∧ Sl T' 23 (.int .u8 (pc : Int)) ∧ Sl T' 72 (.int .i64 i)) ?rest ?first
        case first =>
          intro J2 K2 hJ2 hK2
          have HJ2 := Lib.hid hJ2
          clear hJ2
          cases bp
          · go_upto_region 999 with (first | ((with_reducible refine wp_cond_w ?_); (conv => arg 1; simp [Act.eval, *]); first | refine condW_t ?_ | refine condW_f ?_) | ((with_reducible refine wpList_skip ?hw ?_); (case hw => simp [Region.wanted, yielded, Act.put, undef, hsz])))
            refine Met.intro (HJ2.out _ _ ⟨_, rfl, ⟨[], NlOk.nil, ?_⟩, ⟨ind, rfl, HOB4.out⟩, HB4C.out, HE4.out, lk, kp, kp, kp, kp, kp⟩)
            show Put _ _ _ _ (bs2 ++ enc out ++ []) _ _
            rw [List.append_nil]; exact HPW4.out
          · obtain ⟨im, him⟩ : ∃ im : Nat, (ind : Int) + 1 = (im : Int) := ⟨ind + 1, by omega⟩
            have HIM : Hid (im = ind + 1) := by show _ = _; omega
            have him0 : (0 : Int) ≤ (im : Int) := by omega
            have him1 : (im : Int) ≤ 7 := by omega
            have o0 := cell_blk HOB4.out 0
            have of0 : W4.frozen? ⟨ob, 0, none⟩ = false := frozen_blk HOB4.out 0
            go_upto_region 86 with (first | ((with_reducible refine wp_cond_w ?_); (conv => arg 1; simp [Act.eval, *]); first | refine condW_t ?_ | refine condW_f ?_) | ((with_reducible refine wpList_skip ?hw ?_); (case hw => simp [Region.wanted, yielded, Act.put, undef, hsz])))
            have HOB5 : Hid ((W4.setCell ⟨ob, 0, none⟩ (.int .i32 (im : Int))).heap[ob]? = some (.cells #[.int .i32 (im : Int), .int .u8 (pd : Int), .bool dl] 213 (0, 0))) := set_row3 _ HOB4.out
            have HB5C : Hid ((W4.setCell ⟨ob, 0, none⟩ (.int .i32 (im : Int))).heap[b1]? = some (.cells #[.pointer (some ⟨p, 0, none⟩), .string ⟨⟨enc t.text⟩⟩, .int .i32 0, .int .u32 0, .int .u16 u', .int .u8 t.kind, .int .u8 (wsV t.before t.after)] 105 (0, 0))) := by
              show _ = _
              rw [set_keep _ HGB.out]; exact HB4C.out
            have HPW5 : Hid (Put W0.heap.size g mini asc (bs2 ++ enc out) w (W4.setCell ⟨ob, 0, none⟩ (.int .i32 (im : Int)))) := put_set HPW4.out _ HOBW.out HBB1.out HOB4.out (by decide) HG.out
            have HE5 : Hid (Env F W0 (W4.setCell ⟨ob, 0, none⟩ (.int .i32 (im : Int)))) := HEW.out.ke HPW5.out.ke
            clear o0 of0 HOB4 HB4C HPW4 HE4
            generalize W4.setCell ⟨ob, 0, none⟩ (.int .i32 (im : Int)) = W5 at HOB5 HB5C HPW5 HE5 ⊢
            have hmini5 : W5.cell? ⟨g, 6, none⟩ = some (.bool mini) := by obtain ⟨v, hp, _⟩ := HPW5.out.st.out; exact hp.mini
            have o0 := cell_blk HOB5.out 0
            obtain ⟨im2, him2⟩ : ∃ im2 : Nat, (im : Int) + 1 = (im2 : Int) := ⟨im + 1, by omega⟩
            have HIM2 : Hid (im2 = im + 1) := by show _ = _; omega
            have him20 : (0 : Int) ≤ (im2 : Int) := by omega
            have him21 : (im2 : Int) ≤ 8 := by omega
            have HST5 := Lib.hid HPW5.out.st
            cases hm : mini
            · rw [hm] at hmini5 HST5
              have HMI := Lib.hid hm
              clear hm
              go_upto_region 999 with (first | ((with_reducible refine wp_cond_w ?_); (conv => arg 1; simp [Act.eval, *]); first | refine condW_t ?_ | refine condW_f ?_) | ((with_reducible refine wpList_skip ?hw ?_); (case hw => simp [Region.wanted, yielded, Act.put, undef, hsz])) | (go_at_call 75; go_must (refine (print1_any _ g false asc 10 _ _ HST5.out (by have := HLW4.out; omega)).mono ?_; rintro e' w2 ⟨rfl, hp2⟩; have o0 := cell_blk (ke_blk hp2.ke HOB5.out (by decide) HG.out) 0; have HP6 := Lib.hid hp2; clear hp2)) | (go_at_call 74; go_must (refine (printIndent_any _ g false asc im2 (by omega) _ _ HP6.out.st (by have := HLW4.out; simp only [List.length_append, List.length_cons, List.length_nil] at this ⊢; omega)).mono ?_; rintro e' w3 ⟨rfl, hp3⟩; have HP7 := Lib.hid hp3; clear hp3)))
              have HKK7 : Hid (Ke W0.heap.size g W5 w3) := HP6.out.ke.trans HP7.out.ke
              refine Met.intro (HJ2.out _ _ ⟨_, rfl, ⟨[⟨none, lineC im2⟩], nlOk_line (by have := HIM.out; have := HIM2.out; omega), ?_⟩, ⟨im, HIM.out, ke_blk HKK7.out HOB5.out (by decide) HG.out⟩, ke_blk HKK7.out HB5C.out (by decide) HG1.out, HE5.out.ke HKK7.out, lk, kp, kp, kp, kp, kp⟩)
              have e : enc (flat [(⟨none, lineC im2⟩ : Ch)]) = [10] ++ List.replicate (2 * im2) 32 := by rw [flat_cons, flat_nil, List.append_nil, enc_line]
              show Put _ _ _ _ _ _ _
              rw [e, ← List.append_assoc, HMI.out]
              exact ⟨HP7.out.st, HPW5.out.ke.trans HKK7.out⟩
            · rw [hm] at hmini5
              clear hm
              go_upto_region 999 with (first | ((with_reducible refine wp_cond_w ?_); (conv => arg 1; simp [Act.eval, *]); first | refine condW_t ?_ | refine condW_f ?_) | ((with_reducible refine wpList_skip ?hw ?_); (case hw => simp [Region.wanted, yielded, Act.put, undef, hsz])))
              refine Met.intro (HJ2.out _ _ ⟨_, rfl, ⟨[], NlOk.nil, ?_⟩, ⟨im, HIM.out, HOB5.out⟩, HB5C.out, HE5.out, lk, kp, kp, kp, kp, kp⟩)
              show Put _ _ _ _ (bs2 ++ enc out ++ []) _ _
              rw [List.append_nil]; exact HPW5.out
        case rest =>
        intro a' W5 hcut
        obtain ⟨F11, rfl, ⟨nl, HNL, HPW5⟩, ⟨ic, HIC, HOB5⟩, HB5C, HE5, hB, h7, h12, h14, h23, h72⟩ := hcut
        clear hsz t0 t1 t5 t8 t70 t71 HLB t7 T7 t12 T12 t14 T14 t23 T23 t72 T72 F10 HOB4 HB4C HPW4 HE4 hbp hbp2
        have hsz := hB.b.sz
        have t0 := hB.b.s0.get
        have t1 := hB.b.s1.get
        have t5 := hB.b.s5.get
        have t8 := hB.s8.get
        have t70 := hB.s70.get
        have t71 := hB.s71.get
        have HLB := Lib.hid hB
        clear hB
        have T7 := Lib.hid h7
        have t7 := h7.get
        clear h7
        have T12 := Lib.hid h12
        have t12 := h12.get
        clear h12
        have T14 := Lib.hid h14
        have t14 := h14.get
        clear h14
        have T23 := Lib.hid h23
        have t23 := h23.get
        clear h23
        have T72 := Lib.hid h72
        have t72 := h72.get
        clear h72
        have HIC6 : Hid (ic ≤ 6 ∧ ind ≤ 6) := by
          have h1 := HIC.out
          have h2 := HIND2.out
          show _ ∧ _
          cases bp
          · simp at h1; omega
          · have := h2 rfl; simp at h1; omega
        have HL5 : Hid ((bs2 ++ enc out ++ enc (flat nl)).length + cost t.kids + 1048576 ≤ 140737488355328) := by
          have h1 := HNL.out.size
          have h2 := HLW5.out
          show _ ≤ _
          rw [List.length_append]; omega
        have HCALL : Hid (∀ Wc, Below W5.heap.size W5 Wc → Calls Tryz.prog 80 #[.pointer (some ⟨g, 0, none⟩), v', .agg #[.int .i32 (ic : Int), .int .u8 (pc : Int), .bool false]] Wc (RetPT W0.heap.size g mini asc t.kids (bs2 ++ enc out ++ enc (flat nl)) W5)) := by
          intro Wc hWc
          have h1 := cost_text (List.mem_of_getElem? HTI.out)
          have h2 := HK.out
          have h3 := HC.out
          have h6 := HIC6.out.1
          refine (IH.out t.kids v' Wc (bs2 ++ enc out ++ enc (flat nl)) ic pc false (by omega) (by omega) (by simpa using h6) (by omega) HOKK.out (tks_keep (g := g) (Ke.of_below hWc HPW5.out.st.base) (tks_keep HPW5.out.ke HTKW.out)) (HE5.out.below hWc) (HPW5.out.st.grow hWc) HL5.out).mono ?_
          rintro e' w4 ⟨hasK, kc, he, hpk, hkl, hput⟩
          exact ⟨hasK, kc, he, hpk, hkl, Put.of_below HPW5.out.st hWc hput⟩
        have c0 := HCELL.out _ HPW5.out.ke
        have e0 : W5.cell? ⟨b1, 0, none⟩ = some (.pointer (some ⟨p, 0, none⟩)) := cell_blk HB5C.out 0
        have o0 : W5.cell? ⟨ob, 0, none⟩ = some (.int .i32 (ic : Int)) := cell_blk HOB5.out 0
        have hic0 : (0 : Int) ≤ (ic : Int) := by omega
        go_upto_region 89 with (first | ((with_reducible refine wp_cond_w ?_); (conv => arg 1; simp [Act.eval, *]); first | refine condW_t ?_ | refine condW_f ?_) | ((with_reducible refine wpList_skip ?hw ?_); (case hw => simp [Region.wanted, yielded, Act.put, undef, hsz])))
        refine wp_cut (fun a' wx => ∃ T', a' = ⟨T', []⟩ ∧ (∃ kc, Hid (Prints asc t.kids (headBefore t.kids) kc) ∧ Hid ((enc (flat kc)).length ≤ cost t.kids + 1) ∧ Hid (Put W0.heap.size g mini asc (bs2 ++ enc out ++ enc (flat nl) ++ enc (flat kc)) W5 wx)) ∧ L80 g ob (.slice (some ⟨q, 0, none⟩) ts.length c) ts.length cp T' ∧ Sl T' 7 (.bool has2) ∧ Sl T' 12 (.int .i64 cc') ∧ Sl T' 14 (.pointer (some ⟨b1, 0, none⟩)) ∧ Sl T' 23 (.int .u8 (pc : Int)) ∧ Sl T' 72 (.int .i64 i)) ?rest ?first
        case first =>
          intro J2 K2 hJ2 hK2
          have HJ2 := Lib.hid hJ2
          clear hJ2
          go_region_with ((go_at_call 80; refine (HCALL.out _ (Below.refl _ _).drew).mono ?_; rintro e' w4 ⟨hasK, kc, rfl, hpk, hkl, hput⟩; have HPK := Lib.hid hpk; have HKL := Lib.hid hkl; have HPT := Lib.hid hput; clear hpk hkl hput))
          all_goals
            go_upto_region 999 with (first | ((with_reducible refine wp_cond_w ?_); (conv => arg 1; simp [Act.eval, *]); first | refine condW_t ?_ | refine condW_f ?_) | ((with_reducible refine wpList_skip ?hw ?_); (case hw => simp [Region.wanted, yielded, Act.put, undef, hsz])))
            refine Met.intro (HJ2.out _ _ ⟨_, rfl, ⟨kc, HPK, HKL, HPT⟩, lk, kp, kp, kp, kp, kp⟩)
        case rest =>
        intro a' W6 hcut
        obtain ⟨F12, rfl, ⟨kc, HPK, HKL, HPT⟩, hB, h7, h12, h14, h23, h72⟩ := hcut
        clear c0 e0 o0 hsz t0 t1 t5 t8 t70 t71 HLB t7 T7 t12 T12 t14 T14 t23 T23 t72 T72 F11
        have hsz := hB.b.sz
        have t0 := hB.b.s0.get
        have t1 := hB.b.s1.get
        have t5 := hB.b.s5.get
        have t8 := hB.s8.get
        have t70 := hB.s70.get
        have t71 := hB.s71.get
        have HLB := Lib.hid hB
        clear hB
        have T7 := Lib.hid h7
        have t7 := h7.get
        clear h7
        have T12 := Lib.hid h12
        have t12 := h12.get
        clear h12
        have T14 := Lib.hid h14
        have t14 := h14.get
        clear h14
        have T23 := Lib.hid h23
        have t23 := h23.get
        clear h23
        have T72 := Lib.hid h72
        have t72 := h72.get
        clear h72
        have HOB6 := Lib.hid (ke_blk HPT.out.ke HOB5.out (by decide) HG.out)
        have HB6C := Lib.hid (ke_blk HPT.out.ke HB5C.out (by decide) HG1.out)
        have HPW6 : Hid (Put W0.heap.size g mini asc (bs2 ++ enc out ++ enc (flat nl) ++ enc (flat kc)) w W6) := HPW5.out.trans HPT.out
        clear HOB5 HB5C HPW5 HE5 HPT HCALL
        obtain ⟨bq, hbp⟩ : ∃ b : Bool, decide ((0 : Int) < (pc : Int)) = b := ⟨_, rfl⟩
        have hbp2 : decide (0 < pc) = bq := by rw [← hbp]; simp
        have HBQ : Hid (bq = bp) := by
          have h1 := HBP.out
          show _ = _
          rw [← hbp2]
          cases bp
          · simp at h1 ⊢; omega
          · simp at h1 ⊢; omega
        have hpc0' : (0 : Int) ≤ (pc : Int) := by omega
        go_upto_if 356 with (first | ((with_reducible refine wp_cond_w ?_); (conv => arg 1; simp [Act.eval, *]); first | refine condW_t ?_ | refine condW_f ?_) | ((with_reducible refine wpList_skip ?hw ?_); (case hw => simp [Region.wanted, yielded, Act.put, undef, hsz])))
        refine wp_cut (fun a' wx => ∃ T', a' = ⟨T', []⟩ ∧ Hid (Put W0.heap.size g mini asc (bs2 ++ enc out ++ enc (flat nl) ++ enc (flat kc)) w wx) ∧ Hid (wx.heap[ob]? = some (.cells #[.int .i32 (ind : Int), .int .u8 (pd : Int), .bool dl] 213 (0, 0))) ∧ Hid (wx.heap[b1]? = some (.cells #[.pointer (some ⟨p, 0, none⟩), .string ⟨⟨enc t.text⟩⟩, .int .i32 0, .int .u32 0, .int .u16 u', .int .u8 t.kind, .int .u8 (wsV t.before t.after)] 105 (0, 0))) ∧ L80 g ob (.slice (some ⟨q, 0, none⟩) ts.length c) ts.length cp T' ∧ Sl T' 7 (.bool has2) ∧ Sl T' 12 (.int .i64 cc') ∧ Sl T' 14 (.pointer (some ⟨b1, 0, none⟩)) ∧ Sl T' 72 (.int .i64 i)) ?rest ?first
        case first =>
          intro J2 K2 hJ2 hK2
          have HJ2 := Lib.hid hJ2
          clear hJ2
          cases bq
          · have hii : ic = ind := by
              have h1 := HIC.out
              have h2 := HBQ.out
              rw [← h2] at h1
              simpa using h1
            have HII := Lib.hid hii
            clear hii
            go_upto_region 999 with (first | ((with_reducible refine wp_cond_w ?_); (conv => arg 1; simp [Act.eval, *]); first | refine condW_t ?_ | refine condW_f ?_) | ((with_reducible refine wpList_skip ?hw ?_); (case hw => simp [Region.wanted, yielded, Act.put, undef, hsz])))
            refine Met.intro (HJ2.out _ _ ⟨_, rfl, HPW6.out, ?_, HB6C.out, lk, kp, kp, kp, kp⟩)
            show _ = _
            rw [← HII.out]; exact HOB6.out
          · have hii : (ic : Int) - 1 = (ind : Int) := by
              have h1 := HIC.out
              have h2 := HBQ.out
              rw [← h2] at h1
              simp at h1
              omega
            have o0 := cell_blk HOB6.out 0
            have of0 : W6.frozen? ⟨ob, 0, none⟩ = false := frozen_blk HOB6.out 0
            have h6 := HIC6.out
            have hic0 : (0 : Int) ≤ (ic : Int) := by omega
            have hic1 : (ic : Int) ≤ 6 := by omega
            have hin0 : (0 : Int) ≤ (ind : Int) := by omega
            have hin1 : (ind : Int) ≤ 6 := by omega
            clear h6
            go_upto_region 999 with (first | ((with_reducible refine wp_cond_w ?_); (conv => arg 1; simp [Act.eval, *]); first | refine condW_t ?_ | refine condW_f ?_) | ((with_reducible refine wpList_skip ?hw ?_); (case hw => simp [Region.wanted, yielded, Act.put, undef, hsz])))
            refine Met.intro (HJ2.out _ _ ⟨_, rfl, put_set HPW6.out _ HOBW.out HBB1.out HOB6.out (by decide) HG.out, set_row3 _ HOB6.out, ?_, lk, kp, kp, kp, kp⟩)
            show _ = _
            rw [set_keep _ HGB.out]; exact HB6C.out
        case rest =>
        intro a' W7 hcut
        obtain ⟨F13, rfl, HPW7, HOB7, HB7C, hB, h7, h12, h14, h72⟩ := hcut
        clear hsz t0 t1 t5 t8 t70 t71 HLB t7 T7 t12 T12 t14 T14 t23 T23 t72 T72 F12 hbp hbp2
        have hsz := hB.b.sz
        have t0 := hB.b.s0.get
        have t1 := hB.b.s1.get
        have t5 := hB.b.s5.get
        have t8 := hB.s8.get
        have t70 := hB.s70.get
        have t71 := hB.s71.get
        have HLB := Lib.hid hB
        clear hB
        have T7 := Lib.hid h7
        have t7 := h7.get
        clear h7
        have T12 := Lib.hid h12
        have t12 := h12.get
        clear h12
        have T14 := Lib.hid h14
        have t14 := h14.get
        clear h14
        have T72 := Lib.hid h72
        have t72 := h72.get
        clear h72
        have e5 : W7.cell? ⟨b1, 5, none⟩ = some (.int .u8 t.kind) := cell_blk HB7C.out 5
        have HL4 : Hid ((bs2 ++ enc out ++ enc (flat nl) ++ enc (flat kc)).length + 1 ≤ 140737488355328) := by
          have h2 := HKL.out
          have h3 := HL5.out
          show _ ≤ _
          rw [List.length_append]; omega
        clear HOB6 HB6C HPW6
        rcases opens_bools _ HO.out with k1 | ⟨k1, k2⟩ | ⟨k1, k2, k3⟩ | ⟨k1, k2, k3, k4⟩
        · have HKN : Hid (t.kind = 27) := beq_iff_eq.1 k1
          go_upto_region 999 with (first | ((with_reducible refine wp_cond_w ?_); (conv => arg 1; simp [Act.eval, *]); first | refine condW_t ?_ | refine condW_f ?_) | ((with_reducible refine wpList_skip ?hw ?_); (case hw => simp [Region.wanted, yielded, Act.put, undef, hsz])) | (go_at_call 75; go_must (refine (print1_any _ g mini asc 41 _ _ HPW7.out.st HL4.out).mono ?_; rintro e' w2 ⟨rfl, hp2⟩; have HP5 := Lib.hid hp2; clear hp2)))
          refine Handed.intro (ts.length - (i + 1)) (by omega) (HJ.out _ _ _ ⟨_, rfl, lk, i + 1, has2, cc', pre ++ (ws ++ ⟨some (tkOf t), out⟩ :: (nl ++ (kc ++ [⟨some ⟨closeKind t.kind, 0, []⟩, [closer t.kind]⟩]))), kp, kp, ?_, by omega, ?_, ?_, ke_blk HP5.out.ke HOB7.out (by decide) HG.out⟩)
          · have e : Value.int .i64 ((i : Int) + 1) = Value.int .i64 ((i + 1 : Nat) : Int) := by congr 1
            rw [← e]
            repeat (with_reducible refine Sl.set ?_ (by decide))
            exact Sl.new (by simp [hsz])
          · have := HP.out.openedN HDR.out HWS.out HNL.out HO.out (by rw [HH2.out]; exact HOUT.out) HOL.out HPK.out HKL.out
            rw [HH2.out] at this; exact this
          · show Put _ _ _ _ _ _ _
            have e : bs ++ enc (flat (pre ++ (ws ++ ⟨some (tkOf t), out⟩ :: (nl ++ (kc ++ [⟨some ⟨closeKind t.kind, 0, []⟩, [closer t.kind]⟩]))))) = bs2 ++ enc out ++ enc (flat nl) ++ enc (flat kc) ++ [41] := by
              rw [HBS2.out, show closer t.kind = 41 from by rw [HKN.out]; rfl]; simp only [flat_append, flat_cons, flat_nil, List.append_nil, enc_append, List.append_assoc]; rfl
            rw [e]; exact HPW7.out.trans HP5.out
        · have HKN : Hid (t.kind = 33) := beq_iff_eq.1 k2
          go_upto_region 999 with (first | ((with_reducible refine wp_cond_w ?_); (conv => arg 1; simp [Act.eval, *]); first | refine condW_t ?_ | refine condW_f ?_) | ((with_reducible refine wpList_skip ?hw ?_); (case hw => simp [Region.wanted, yielded, Act.put, undef, hsz])) | (go_at_call 75; go_must (refine (print1_any _ g mini asc 41 _ _ HPW7.out.st HL4.out).mono ?_; rintro e' w2 ⟨rfl, hp2⟩; have HP5 := Lib.hid hp2; clear hp2)))
          refine Handed.intro (ts.length - (i + 1)) (by omega) (HJ.out _ _ _ ⟨_, rfl, lk, i + 1, has2, cc', pre ++ (ws ++ ⟨some (tkOf t), out⟩ :: (nl ++ (kc ++ [⟨some ⟨closeKind t.kind, 0, []⟩, [closer t.kind]⟩]))), kp, kp, ?_, by omega, ?_, ?_, ke_blk HP5.out.ke HOB7.out (by decide) HG.out⟩)
          · have e : Value.int .i64 ((i : Int) + 1) = Value.int .i64 ((i + 1 : Nat) : Int) := by congr 1
            rw [← e]
            repeat (with_reducible refine Sl.set ?_ (by decide))
            exact Sl.new (by simp [hsz])
          · have := HP.out.openedN HDR.out HWS.out HNL.out HO.out (by rw [HH2.out]; exact HOUT.out) HOL.out HPK.out HKL.out
            rw [HH2.out] at this; exact this
          · show Put _ _ _ _ _ _ _
            have e : bs ++ enc (flat (pre ++ (ws ++ ⟨some (tkOf t), out⟩ :: (nl ++ (kc ++ [⟨some ⟨closeKind t.kind, 0, []⟩, [closer t.kind]⟩]))))) = bs2 ++ enc out ++ enc (flat nl) ++ enc (flat kc) ++ [41] := by
              rw [HBS2.out, show closer t.kind = 41 from by rw [HKN.out]; rfl]; simp only [flat_append, flat_cons, flat_nil, List.append_nil, enc_append, List.append_assoc]; rfl
            rw [e]; exact HPW7.out.trans HP5.out
        · have HKN : Hid (t.kind = 31) := beq_iff_eq.1 k3
          go_upto_region 999 with (first | ((with_reducible refine wp_cond_w ?_); (conv => arg 1; simp [Act.eval, *]); first | refine condW_t ?_ | refine condW_f ?_) | ((with_reducible refine wpList_skip ?hw ?_); (case hw => simp [Region.wanted, yielded, Act.put, undef, hsz])) | (go_at_call 75; go_must (refine (print1_any _ g mini asc 125 _ _ HPW7.out.st HL4.out).mono ?_; rintro e' w2 ⟨rfl, hp2⟩; have HP5 := Lib.hid hp2; clear hp2)))
          refine Handed.intro (ts.length - (i + 1)) (by omega) (HJ.out _ _ _ ⟨_, rfl, lk, i + 1, has2, cc', pre ++ (ws ++ ⟨some (tkOf t), out⟩ :: (nl ++ (kc ++ [⟨some ⟨closeKind t.kind, 0, []⟩, [closer t.kind]⟩]))), kp, kp, ?_, by omega, ?_, ?_, ke_blk HP5.out.ke HOB7.out (by decide) HG.out⟩)
          · have e : Value.int .i64 ((i : Int) + 1) = Value.int .i64 ((i + 1 : Nat) : Int) := by congr 1
            rw [← e]
            repeat (with_reducible refine Sl.set ?_ (by decide))
            exact Sl.new (by simp [hsz])
          · have := HP.out.openedN HDR.out HWS.out HNL.out HO.out (by rw [HH2.out]; exact HOUT.out) HOL.out HPK.out HKL.out
            rw [HH2.out] at this; exact this
          · show Put _ _ _ _ _ _ _
            have e : bs ++ enc (flat (pre ++ (ws ++ ⟨some (tkOf t), out⟩ :: (nl ++ (kc ++ [⟨some ⟨closeKind t.kind, 0, []⟩, [closer t.kind]⟩]))))) = bs2 ++ enc out ++ enc (flat nl) ++ enc (flat kc) ++ [125] := by
              rw [HBS2.out, show closer t.kind = 125 from by rw [HKN.out]; rfl]; simp only [flat_append, flat_cons, flat_nil, List.append_nil, enc_append, List.append_assoc]; rfl
            rw [e]; exact HPW7.out.trans HP5.out
        · have HKN : Hid (t.kind = 32) := beq_iff_eq.1 k4
          go_upto_region 999 with (first | ((with_reducible refine wp_cond_w ?_); (conv => arg 1; simp [Act.eval, *]); first | refine condW_t ?_ | refine condW_f ?_) | ((with_reducible refine wpList_skip ?hw ?_); (case hw => simp [Region.wanted, yielded, Act.put, undef, hsz])) | (go_at_call 75; go_must (refine (print1_any _ g mini asc 93 _ _ HPW7.out.st HL4.out).mono ?_; rintro e' w2 ⟨rfl, hp2⟩; have HP5 := Lib.hid hp2; clear hp2)))
          refine Handed.intro (ts.length - (i + 1)) (by omega) (HJ.out _ _ _ ⟨_, rfl, lk, i + 1, has2, cc', pre ++ (ws ++ ⟨some (tkOf t), out⟩ :: (nl ++ (kc ++ [⟨some ⟨closeKind t.kind, 0, []⟩, [closer t.kind]⟩]))), kp, kp, ?_, by omega, ?_, ?_, ke_blk HP5.out.ke HOB7.out (by decide) HG.out⟩)
          · have e : Value.int .i64 ((i : Int) + 1) = Value.int .i64 ((i + 1 : Nat) : Int) := by congr 1
            rw [← e]
            repeat (with_reducible refine Sl.set ?_ (by decide))
            exact Sl.new (by simp [hsz])
          · have := HP.out.openedN HDR.out HWS.out HNL.out HO.out (by rw [HH2.out]; exact HOUT.out) HOL.out HPK.out HKL.out
            rw [HH2.out] at this; exact this
          · show Put _ _ _ _ _ _ _
            have e : bs ++ enc (flat (pre ++ (ws ++ ⟨some (tkOf t), out⟩ :: (nl ++ (kc ++ [⟨some ⟨closeKind t.kind, 0, []⟩, [closer t.kind]⟩]))))) = bs2 ++ enc out ++ enc (flat nl) ++ enc (flat kc) ++ [93] := by
              rw [HBS2.out, show closer t.kind = 93 from by rw [HKN.out]; rfl]; simp only [flat_append, flat_cons, flat_nil, List.append_nil, enc_append, List.append_assoc]; rfl
            rw [e]; exact HPW7.out.trans HP5.out
      · have hpe := HLEAF.out ho
        injection hpe with hpe
        subst hpe
        have HO := Lib.hid ho
        clear ho
        go_upto_region 999 with (first | ((with_reducible refine wp_cond_w ?_); (conv => arg 1; simp [Act.eval, *]); first | refine condW_t ?_ | refine condW_f ?_) | ((with_reducible refine wpList_skip ?hw ?_); (case hw => simp [Region.wanted, yielded, Act.put, undef, hsz])))
        refine Handed.intro (ts.length - (i + 1)) (by omega) (HJ.out _ _ _ ⟨_, rfl, lk, i + 1, has2, cc', pre ++ (ws ++ [⟨some (tkOf t), out⟩]), kp, kp, ?_, by omega, ?_, ?_, HOB3.out⟩)
        · have e : Value.int .i64 ((i : Int) + 1) = Value.int .i64 ((i + 1 : Nat) : Int) := by congr 1
          rw [← e]
          repeat (with_reducible refine Sl.set ?_ (by decide))
          exact Sl.new (by simp [hsz])
        · have := HP.out.plain HDR.out HWS.out HO.out (by rw [HH2.out]; exact HOUT.out) HOL.out
          rw [HH2.out] at this; exact this
        · show Put _ _ _ _ _ _ _
          have e : bs ++ enc (flat (pre ++ (ws ++ [⟨some (tkOf t), out⟩]))) = bs2 ++ enc out := by
            rw [HBS2.out]; simp [flat_append, enc_append]
          rw [e]; exact HPW3.out
    · have hle : (ts.length : Int) ≤ (i : Int) := by omega
      have hdn : ts.drop i = [] := List.drop_eq_nil_of_le (by omega)
      have HDN := Lib.hid hdn
      clear hdn
      cases has
      · go_upto_region 999 with (first | ((with_reducible refine wp_cond_w ?_); (conv => arg 1; simp [Act.eval, *]); first | refine condW_t ?_ | refine condW_f ?_) | ((with_reducible refine wpList_skip ?hw ?_); (case hw => simp [Region.wanted, yielded, Act.put, undef, hsz])))
        refine bodyPost_ret (v := .bool false) (by simp [results, Tryz.results80, go_sem, hsz]) rfl ?_
        obtain ⟨r1, r2⟩ := HP.out.done HDN.out
        exact ⟨false, pre, rfl, r1, r2, HPUT.out⟩
      · go_upto_region 999 with (first | ((with_reducible refine wp_cond_w ?_); (conv => arg 1; simp [Act.eval, *]); first | refine condW_t ?_ | refine condW_f ?_) | ((with_reducible refine wpList_skip ?hw ?_); (case hw => simp [Region.wanted, yielded, Act.put, undef, hsz])) | (go_at_call 75; go_must (refine (print1_any _ g mini asc 32 _ _ HPUT.out.st (by have h1 := HP.out.size; have h2 := HL.out; rw [List.length_append]; omega)).mono ?_; rintro e' w2 ⟨rfl, hp2⟩; have HP2 := Lib.hid hp2; clear hp2)))
        refine bodyPost_ret (v := .bool true) (by simp [results, Tryz.results80, go_sem, hsz]) rfl ?_
        obtain ⟨r1, r2⟩ := HP.out.doneSp HDN.out
        refine ⟨true, pre ++ [⟨none, [32]⟩], rfl, r1, r2, ?_⟩
        have e : bs ++ enc (flat (pre ++ [⟨none, [32]⟩])) = bs ++ enc (flat pre) ++ [32] := by
          simp only [flat_append, flat_cons, flat_nil, List.append_nil, enc_append, List.append_assoc]; rfl
        rw [e]; exact HPUT.out.trans HP2.out
end Go.Proofs.YtkfdcbdlcipmfaaGreatFmt
