/- Walks: the printer: small functions around it. -/
import Derived.Test.YtkfdcbdlcipmfaaGreatFmtH08
import Derived.Test.YtkfdcbdlcipmfaaGreatFmtH07
import Derived.Test.YtkfdcbdlcipmfaaGreatFmtH12
import Derived.Test.YtkfdcbdlcipmfaaGreatFmtH10
import Derived.Test.YtkfdcbdlcipmfaaGreatFmtH06
import Derived.Orders
import Derived.OrdersHeld
import Derived.Deep.RegionHeld
import Derived.Laws.Tables
import Derived.Laws.Rows
set_option linter.unusedVariables false
set_option linter.unusedSimpArgs false
namespace Go.Proofs.YtkfdcbdlcipmfaaGreatFmt
open Go.RowKit Css
theorem below_set0 {B : Nat} {w : World} {b o : Nat} (hb : B ≤ b) (u : Value) : Below B w (w.setCell ⟨b, o, none⟩ u) :=
  ⟨rfl, rfl, rfl, by simp [World.setCell], fun i hi => Below.heap_setCell _ _ _ _ (by simp; omega)⟩
abbrev ctV (ptr : Value) (s : ByteArray) (lo pl u' k ws : Int) : Value := .agg #[ptr, .string s, .int .i32 lo, .int .u32 pl, .int .u16 u', .int .u8 k, .int .u8 ws]
def RetStr (s : ByteArray) (w : World) (e : Ending) (w' : World) : Prop := e = .returned (.string s) ∧ Below w.heap.size w w'
set_option maxRecDepth 100000 in
theorem dimValue_any (ptr : Value) (hp : ptr.oneCell' = true) (s : ByteArray) (lo pl k ws : Int) (u : Nat) (hu : u ≤ s.size) (hs : s.size ≤ 2147483647) (w : World) :
    Calls Tryz.prog 110 #[ctV ptr s lo pl u k ws] w (RetStr (s.extract 0 u) w) := by
  have HB := Lib.hid (box_below (.cells #[ptr, .string s, .int .i32 lo, .int .u32 pl, .int .u16 u, .int .u8 k, .int .u8 ws] 105) w)
  have h0 : (0 : Int) ≤ (u : Int) := by omega
  have h1 : (u : Int) ≤ (s.size : Int) := by omega
  have h2 : (s.size : Int) ≤ 2147483647 := by omega
  clear hu hs
  go_enter Tryz.func110, Tryz.ntmps110
  go_wp2_with fail
  go_ret
  exact ⟨rfl, HB.out⟩
set_option maxRecDepth 100000 in
theorem dimUnit_any (ptr : Value) (hp : ptr.oneCell' = true) (s : ByteArray) (lo pl k ws : Int) (u : Nat) (hu : u ≤ s.size) (hs : s.size ≤ 2147483647) (w : World) :
    Calls Tryz.prog 112 #[ctV ptr s lo pl u k ws] w (RetStr (s.extract u s.size) w) := by
  have HB := Lib.hid (box_below (.cells #[ptr, .string s, .int .i32 lo, .int .u32 pl, .int .u16 u, .int .u8 k, .int .u8 ws] 105) w)
  have h0 : (0 : Int) ≤ (u : Int) := by omega
  have h1 : (u : Int) ≤ (s.size : Int) := by omega
  have h2 : (s.size : Int) ≤ 2147483647 := by omega
  clear hu hs
  go_enter Tryz.func112, Tryz.ntmps112
  go_wp2_with fail
  go_ret
  exact ⟨rfl, HB.out⟩
theorem info106 : (Tryz.prog.info? 106).map (fun i => (i.zero, i.size, i.bytes)) = some (some (.slice none 0 0), 1, 24) := by kernel_rfl
def RetMap (w : World) (e : Ending) (w' : World) : Prop := ∃ A, e = .returned (.agg #[.slice (some A) 1 1]) ∧ Below w.heap.size w w'
set_option maxRecDepth 100000 in
theorem newMap_any (w : World) : Calls Tryz.prog 46 #[.int .i64 1] w (RetMap w) := by
  obtain ⟨i, hi, hz0, hz1, hz2⟩ := parts_of info106
  obtain ⟨w1, hr, _, hg⟩ := run_makeSlice_full (P := Tryz.prog) (w := w.alloc (.cells #[.slice none 0 0] 133)) 0 131 106 i (.slice none 0 0) 1 Tryz.underlying131 hi hz0 hz1 .i64 .i64 1 (by omega) (by rw [hz2]; omega) (by unfold maxLen; omega) (Nat.zero_le _)
  have hr' : (Instr.makeSlice 131 (.int .i64 1) (.int .i64 1)).run Tryz.prog (w.alloc (.cells #[.slice none 0 0] 133)) = .ok (.slice (some ⟨(w.alloc (.cells #[.slice none 0 0] 133)).heap.size, 0, none⟩) 1 1) w1 := hr
  generalize (w.alloc (.cells #[.slice none 0 0] 133)).heap.size = m at hr'
  have hb : Below w.heap.size w w1 := ((Below.refl _ _).alloc (Nat.le_refl _) _).grown hg (by simp) (by simp)
  have hw1 : w1.heap[w.heap.size]? = some (.cells #[.slice none 0 0] 133) := by
    rw [hg.block w.heap.size (by simp) (by simp)]; exact heap_alloc_new w _
  have c0 := cell_blk hw1 0
  have f0 := frozen_blk hw1 0
  have HB := Lib.hid (hb.trans (below_set0 (o := 0) (Nat.le_refl _) (.slice (some ⟨m, 0, none⟩) 1 1)))
  have r0 : (w1.setCell ⟨w.heap.size, 0, none⟩ (.slice (some ⟨m, 0, none⟩) 1 1)).cell? ⟨w.heap.size, 0, none⟩ = some (.slice (some ⟨m, 0, none⟩) 1 1) := World.cell?_setCell_same _ _ _ c0
  clear hr hg hb hw1 hi hz0 hz1 hz2
  go_enter Tryz.func46, Tryz.ntmps46
  go_wp2_with fail
  refine bodyPost_ret (v := .agg #[.slice (some ⟨m, 0, none⟩) 1 1]) (by simp [results, Tryz.results46, go_sem, r0]) rfl ?_
  exact ⟨_, rfl, HB.out⟩
end Go.Proofs.YtkfdcbdlcipmfaaGreatFmt
namespace Go.Proofs.YtkfdcbdlcipmfaaGreatFmt
open Go.RowKit Css Go.Stop
open Go.Extern.Stop Go.Extern
variable {F : Go.Stop.Interp} {W0 w w' : World}
def eE : ByteArray := ⟨#[101, 69]⟩
def HasE (cs : List Int) : Prop := ∃ c ∈ cs, c = 101 ∨ c = 69
set_option maxHeartbeats 4000000 in
set_option maxRecDepth 100000 in
theorem indexE (cs : List Int) (hv : AllV cs) (s : ByteArray) (h : s.data.toList = enc cs) (w : World) :
    Calls Tryz.prog 137 #[.string s, .string eE] w fun e w' => (∃ r : Int, e = .returned (.int .i64 r) ∧ (0 ≤ r ↔ HasE cs)) ∧ Below w.heap.size w w' := by
  have HH := Lib.hid h
  have HV := Lib.hid hv
  have HIT0 : Hid ((w.iter s 0).heap[w.heap.size]? = some (.stringIter s 0)) := World.iter_heap w s 0
  have HK0 : Hid (Below w.heap.size w (w.iter s 0)) := (Below.refl _ _).alloc (Nat.le_refl _) _
  clear h hv
  rename World => w0
  go_enter Tryz.func137, Tryz.ntmps137
  go_wp2_with fail
  go_loopg [] cs.length (fun k wr => ∃ (A R : List Int), Hid (A ++ R = cs ∧ ¬ HasE A) ∧ R.length = k ∧ Hid (wr.heap[w0.heap.size]? = some (.stringIter s (enc A).length)) ∧ Hid (Below w0.heap.size w0 wr))
  case atStart => exact ⟨[], cs, ⟨rfl, by rintro ⟨c, hc, _⟩; simp at hc⟩, rfl, HIT0.out, HK0.out⟩
  case round =>
    obtain ⟨A, R, HA, hk, HIT, HK⟩ := hrel
    clear HIT0 HK0
    cases R with
    | nil =>
      have hend : (enc A).length = s.size := by
        have := HA.out.1
        rw [List.append_nil] at this
        rw [this, size_enc HH.out]
      have hnext : ∀ ty, (Instr.next (.pointer (some ⟨w0.heap.size, 0, none⟩)) true ty).run Tryz.prog wr = _ := fun ty => Lib.run_next_end_at wr w0.heap.size s _ ty HIT.out (by omega)
      clear hend
      go_wp2_with fail
      go_ret
      refine ⟨⟨_, rfl, ?_⟩, HK.out⟩
      have := HA.out
      rw [List.append_nil] at this
      rw [← this.1]
      exact ⟨fun h => absurd h (by decide), fun h => absurd h this.2⟩
    | cons c t =>
      have hvc : Valid c := HV.out c (by rw [← HA.out.1]; simp)
      have hs2 : s.data.toList = enc A ++ (enc1 c ++ enc t) := by rw [HH.out, ← HA.out.1, enc_append, enc_cons]
      have hsz : s.size = (enc A).length + (wd c + (enc t).length) := by rw [size_enc hs2, List.length_append, List.length_append, enc1_length]
      have hwd := wd_pos c
      have hdec := decode_enc hvc hs2
      have hnext : ∀ ty, (Instr.next (.pointer (some ⟨w0.heap.size, 0, none⟩)) true ty).run Tryz.prog wr = _ := fun ty => Lib.run_next_any_at wr w0.heap.size s _ ty HIT.out (by omega)
      simp only [hdec] at hnext
      have hcn : ((c.toNat : Nat) : Int) = c := by unfold Valid at hvc; omega
      rw [hcn] at hnext
      have HIT1 := Lib.hid (Lib.iterAt_heap wr w0.heap.size s (enc A).length ((enc A).length + wd c) HIT.out)
      have HK1 : Hid (Below w0.heap.size w0 (wr.iterAt w0.heap.size s ((enc A).length + wd c))) := Lib.below_iterAt HK.out (Nat.le_refl _) s _
      generalize wr.iterAt w0.heap.size s ((enc A).length + wd c) = W1 at hnext HIT1 HK1
      have hp0 : (0 : Int) ≤ ((enc A).length : Int) := by omega
      have HP0 := Lib.hid hp0
      have hk2 : t.length < gk := by simp at hk; omega
      have HK2 := Lib.hid hk2
      have hlt : w0.heap.size < W1.heap.size := (Array.getElem?_eq_some_iff.1 HIT1.out).1
      have HLT := Lib.hid hlt
      clear hs2 hdec hcn hsz hwd HIT HK hvc hk hk2 hlt hp0
      have HI0 : Hid ((W1.iter eE 0).heap[W1.heap.size]? = some (.stringIter eE 0)) := World.iter_heap W1 eE 0
      have HB0 : Hid (Below W1.heap.size W1 (W1.iter eE 0)) := (Below.refl _ _).alloc (Nat.le_refl _) _
      go_wp2_with fail
      go_loopg [] 2 (fun k wx => ∃ pos : Nat, pos + k = 2 ∧ Hid ((1 ≤ pos → c ≠ 101) ∧ (2 ≤ pos → c ≠ 69)) ∧ Hid (wx.heap[W1.heap.size]? = some (.stringIter eE pos)) ∧ Hid (Below W1.heap.size W1 wx))
      case atStart => exact ⟨0, rfl, ⟨by omega, by omega⟩, HI0.out, HB0.out⟩
      case round =>
        obtain ⟨pos, hpk, HC, HI, HB⟩ := hrel
        clear HI0 HB0 hnext
        have HOUT : Hid (∀ W, Below W1.heap.size W1 W → c ≠ 101 → c ≠ 69 → ∃ (A R : List Int), Hid (A ++ R = cs ∧ ¬ HasE A) ∧ R.length = t.length ∧ Hid (W.heap[w0.heap.size]? = some (.stringIter s (enc A).length)) ∧ Hid (Below w0.heap.size w0 W)) := fun W hW h1 h2 =>
          ⟨A ++ [c], t, ⟨by rw [← HA.out.1]; simp, by
            rintro ⟨x, hx, hx2⟩
            rw [List.mem_append, List.mem_singleton] at hx
            rcases hx with hx | rfl
            · exact HA.out.2 ⟨x, hx, hx2⟩
            · omega⟩, rfl, by
            show _ = _
            rw [enc_append, List.length_append, enc_cons, List.length_append, enc1_length]
            exact (hW.block _ HLT.out).trans HIT1.out, HK1.out.trans (hW.mono (Nat.le_of_lt HLT.out))⟩
        have HRET : Hid (c = 101 ∨ c = 69 → HasE cs) := fun h => ⟨c, by rw [← HA.out.1]; simp, h⟩
        have hp3 : pos = 0 ∨ pos = 1 ∨ pos = 2 := by omega
        rcases hp3 with rfl | rfl | rfl
        · have hnext : ∀ ty, (Instr.next (.pointer (some ⟨W1.heap.size, 0, none⟩)) true ty).run Tryz.prog wr = _ := fun ty => Lib.run_next_any_at wr W1.heap.size eE 0 ty HI.out (by decide)
          have hd : Utf8.decode eE 0 = (101, 1) := by decide
          simp only [hd] at hnext
          have HI1 := Lib.hid (Lib.iterAt_heap wr W1.heap.size eE 0 (0 + 1) HI.out)
          have HB1 : Hid (Below W1.heap.size W1 (wr.iterAt W1.heap.size eE (0 + 1))) := Lib.below_iterAt HB.out (Nat.le_refl _) eE _
          generalize wr.iterAt W1.heap.size eE (0 + 1) = W2 at hnext HI1 HB1
          clear HI HB hd
          cases hce : (c == 101)
          · have hn : c ≠ 101 := by simpa using hce
            have HN := Lib.hid hn
            clear hn
            go_wp2_with fail
            go_roundg 1
            case measure => omega
            case rel => exact ⟨1, rfl, ⟨fun _ => HN.out, by omega⟩, HI1.out, HB1.out⟩
          · have hy : c = 101 := by simpa using hce
            have HY := Lib.hid hy
            clear hy
            go_wp2_with fail
            go_ret
            exact ⟨⟨_, rfl, fun _ => HRET.out (.inl HY.out), fun _ => HP0.out⟩, HK1.out.trans (HB1.out.mono (Nat.le_of_lt HLT.out))⟩
        · have hnext : ∀ ty, (Instr.next (.pointer (some ⟨W1.heap.size, 0, none⟩)) true ty).run Tryz.prog wr = _ := fun ty => Lib.run_next_any_at wr W1.heap.size eE 1 ty HI.out (by decide)
          have hd : Utf8.decode eE 1 = (69, 1) := by decide
          simp only [hd] at hnext
          have HI1 := Lib.hid (Lib.iterAt_heap wr W1.heap.size eE 1 (1 + 1) HI.out)
          have HB1 : Hid (Below W1.heap.size W1 (wr.iterAt W1.heap.size eE (1 + 1))) := Lib.below_iterAt HB.out (Nat.le_refl _) eE _
          generalize wr.iterAt W1.heap.size eE (1 + 1) = W2 at hnext HI1 HB1
          clear HI HB hd
          cases hce : (c == 69)
          · have hn : c ≠ 69 := by simpa using hce
            have HN := Lib.hid hn
            clear hn
            go_wp2_with fail
            go_roundg 0
            case measure => omega
            case rel => exact ⟨2, rfl, ⟨fun _ => HC.out.1 (by omega), fun _ => HN.out⟩, HI1.out, HB1.out⟩
          · have hy : c = 69 := by simpa using hce
            have HY := Lib.hid hy
            clear hy
            go_wp2_with fail
            go_ret
            exact ⟨⟨_, rfl, fun _ => HRET.out (.inr HY.out), fun _ => HP0.out⟩, HK1.out.trans (HB1.out.mono (Nat.le_of_lt HLT.out))⟩
        · have hnext : ∀ ty, (Instr.next (.pointer (some ⟨W1.heap.size, 0, none⟩)) true ty).run Tryz.prog wr = _ := fun ty => Lib.run_next_end_at wr W1.heap.size eE 2 ty HI.out (by decide)
          go_wp2_with fail
          go_roundg t.length
          case measure => exact HK2.out
          case rel => exact HOUT.out _ HB.out (HC.out.1 (by omega)) (HC.out.2 (by omega))
set_option maxRecDepth 100000 in
theorem containsE (cs : List Int) (hv : AllV cs) (s : ByteArray) (h : s.data.toList = enc cs) (w : World) :
    Calls Tryz.prog 111 #[.string s, .string ⟨#[101, 69]⟩] w fun e w' => (∃ b : Bool, e = .returned (.bool b) ∧ (b = true ↔ HasE cs)) ∧ Below w.heap.size w w' := by
  have HH := Lib.hid h
  have HV := Lib.hid hv
  clear h hv
  go_enter Tryz.func111, Tryz.ntmps111
  go_wp2_with (go_at_call 137; go_must (refine (indexE cs HV.out s HH.out _).mono ?_; rintro e' w1 ⟨⟨r, rfl, hr⟩, hb⟩; have HR := Lib.hid hr; clear hr; have HB := Lib.hid hb; clear hb))
  go_ret
  exact ⟨⟨_, rfl, by rw [← HR.out]; simp⟩, HB.out⟩
end Go.Proofs.YtkfdcbdlcipmfaaGreatFmt
namespace Go.Proofs.YtkfdcbdlcipmfaaGreatFmt
open Go.RowKit Css
def RetPT (B g : Nat) (mini asc : Bool) (ts : List T) (bs : List UInt8) (w : World) (e : Ending) (w' : World) : Prop :=
  ∃ (has : Bool) (l : List Ch), e = .returned (.bool has) ∧ Prints asc ts (headBefore ts) l ∧ (enc (flat l)).length ≤ cost ts + 1 ∧ Put B g mini asc (bs ++ enc (flat l)) w w'
structure Pre (asc : Bool) (ts : List T) (i : Nat) (has : Bool) (pre : List Ch) : Prop where
  more : ∀ l, Prints asc (ts.drop i) has l → Prints asc ts (headBefore ts) (pre ++ l)
  size : (enc (flat pre)).length + cost (ts.drop i) ≤ cost ts
theorem Pre.zero (asc : Bool) (ts : List T) : Pre asc ts 0 (headBefore ts) [] := ⟨fun l h => h, by simp [enc]⟩
structure WsOk (has : Bool) (ws : List Ch) : Prop where
  yes : has = true → ∃ w, Blank w ∧ ws = [⟨none, w⟩]
  no : has = false → ws = []
  size : (enc (flat ws)).length ≤ 32
theorem Pre.plain {asc has : Bool} {ts : List T} {i : Nat} {pre ws : List Ch} {t : T} {out : List Int} (h : Pre asc ts i has pre) (hd : ts.drop i = t :: ts.drop (i + 1)) (hw : WsOk has ws) (ho : ¬ opens t.kind)
    (hout : Own asc (t.after || headBefore (ts.drop (i + 1))) t out) (hs : (enc out).length ≤ 16 * t.text.length + 8) :
    Pre asc ts (i + 1) (t.after || headBefore (ts.drop (i + 1))) (pre ++ (ws ++ [⟨some (tkOf t), out⟩])) := by
  refine ⟨fun l hl => ?_, ?_⟩
  · have h1 := Prints.plain t (ts.drop (i + 1)) has ws out l hw.yes hw.no ho hout hl
    rw [← hd] at h1
    have := h.more _ h1
    simpa using this
  · have h1 := h.size
    have h2 := hw.size
    rw [hd, cost_cons] at h1
    simp only [flat_append, flat_cons, flat_nil, List.append_nil, enc_append, List.length_append]
    omega
theorem Pre.opened {asc has : Bool} {ts : List T} {i : Nat} {pre ws kc : List Ch} {t : T} {out : List Int} (h : Pre asc ts i has pre) (hd : ts.drop i = t :: ts.drop (i + 1)) (hw : WsOk has ws) (ho : opens t.kind)
    (hout : Own asc (t.after || headBefore (ts.drop (i + 1))) t out) (hs : (enc out).length ≤ 16 * t.text.length + 8) (hk : Prints asc t.kids (headBefore t.kids) kc) (hks : (enc (flat kc)).length ≤ cost t.kids + 1) :
    Pre asc ts (i + 1) (t.after || headBefore (ts.drop (i + 1))) (pre ++ (ws ++ ⟨some (tkOf t), out⟩ :: (kc ++ [⟨some ⟨closeKind t.kind, 0, []⟩, [closer t.kind]⟩]))) := by
  refine ⟨fun l hl => ?_, ?_⟩
  · have h1 := Prints.opened t (ts.drop (i + 1)) has ws [] out kc l hw.yes hw.no ho hout (.inl rfl) hk hl
    rw [← hd] at h1
    have := h.more _ h1
    simpa using this
  · have h1 := h.size
    have h2 := hw.size
    have h3 := wd_pos (closer t.kind)
    rw [hd, cost_cons] at h1
    simp only [flat_append, flat_cons, flat_nil, List.append_nil, enc_append, List.length_append, enc_length_cons]
    have e : (enc ([] : List Int)).length = 0 := rfl
    omega
theorem Pre.done {asc : Bool} {ts : List T} {i : Nat} {pre : List Ch} (h : Pre asc ts i false pre) (hd : ts.drop i = []) : Prints asc ts (headBefore ts) pre ∧ (enc (flat pre)).length ≤ cost ts + 1 := by
  have h1 := h.more [] (by rw [hd]; exact .nil)
  rw [List.append_nil] at h1
  exact ⟨h1, by have := h.size; omega⟩
theorem Pre.doneSp {asc : Bool} {ts : List T} {i : Nat} {pre : List Ch} (h : Pre asc ts i true pre) (hd : ts.drop i = []) : Prints asc ts (headBefore ts) (pre ++ [⟨none, [32]⟩]) ∧ (enc (flat (pre ++ [⟨none, [32]⟩]))).length ≤ cost ts + 1 := by
  refine ⟨h.more _ (by rw [hd]; exact .last _ ⟨by simp, by simp⟩), ?_⟩
  have := h.size
  simp only [flat_append, flat_cons, flat_nil, List.append_nil, enc_append, List.length_append]
  have e : (enc ([32] : List Int)).length = 1 := rfl
  omega
theorem ke_blk {B g : Nat} {w w' : World} (h : Ke B g w w') {b : Nat} {cs : Array Value} {ty : TypeId} (hb : w.heap[b]? = some (.cells cs ty (0, 0))) (hT : ty ≠ 5) (hg : b ≠ g) : w'.heap[b]? = some (.cells cs ty (0, 0)) := by
  rw [h.block b (Array.getElem?_eq_some_iff.1 hb).1 hg (by rintro ⟨cs', fr, e⟩; rw [hb] at e; injection e with e; injection e with _ e _; exact hT e)]
  exact hb
theorem ok_kinds {asc : Bool} {t : T} (h : OK1 asc t) : (t.kind == 38) = false ∧ 0 ≤ t.kind ∧ t.kind < 256 ∧ (t.kind = 29 ∨ t.kind = 27 ∨ t.kind = 26 ∨ t.kind = 1 ∨ t.kind = 28 ∨ t.kind = 36 ∨
    ((t.kind == 29) = false ∧ (t.kind == 39) = false ∧ (t.kind == 27) = false ∧ (t.kind == 26) = false ∧ (t.kind == 1) = false ∧ (t.kind == 28) = false ∧ (t.kind == 36) = false ∧ (t.kind == 37) = false ∧ (t.kind == 2) = false)) := by
  simp only [beq_eq_false_iff_ne, ne_eq]
  cases h with
  | name h => omega
  | func h => omega
  | str h => omega
  | num h => omega
  | dim h => omega
  | sign h => unfold signLike at h; omega
theorem ok_good {asc : Bool} {t : T} (h : OK1 asc t) : Css.Good asc t.text := by
  cases h with
  | name _ _ h => exact h
  | func _ _ h => exact h
  | str _ h => exact h
  | num _ h => exact h
  | dim _ h => exact h
  | sign _ h => exact h
theorem ok_dim {asc : Bool} {t : T} (h : OK1 asc t) (hk : t.kind = 26) : 0 < t.unit ∧ t.unit < t.text.length ∧ ∀ c ∈ t.text.take t.unit, c < 128 := by
  cases h with
  | name h => omega
  | func h => omega
  | str h => omega
  | num h => omega
  | dim _ hg h1 h2 h3 => exact ⟨h1, h2, lone_ascii (good_ne (good_sub hg fun c hc => List.mem_of_mem_take hc)) h3 (.inl rfl)⟩
  | sign h => unfold signLike at h; omega
theorem good_v {asc : Bool} {cs : List Int} (h : Css.Good asc cs) : AllV cs := fun c hc => (h c hc).1
theorem good_l {asc : Bool} {cs : List Int} (h : Css.Good asc cs) : asc = true → ∀ c ∈ cs, c < 1048576 := fun ha c hc => (h c hc).2 ha
theorem unit_mode (cs : List Int) (b : Bool) (h : b = true ↔ HasE cs) : unitMode cs = if b then 3 else 2 := by
  unfold unitMode
  have : (101 ∈ cs ∨ 69 ∈ cs) ↔ HasE cs := by
    unfold HasE
    constructor
    · rintro (h | h)
      · exact ⟨_, h, .inl rfl⟩
      · exact ⟨_, h, .inr rfl⟩
    · rintro ⟨c, hc, rfl | rfl⟩
      · exact .inl hc
      · exact .inr hc
  cases b
  · rw [if_neg (fun hx => by have := h.2 (this.1 hx); simp at this)]; rfl
  · rw [if_pos (this.2 (h.1 rfl))]; rfl
theorem enc_ascii_take {cs : List Int} {u : Nat} (hv : AllV cs) (ha : ∀ c ∈ cs.take u, c < 128) (hu : u ≤ cs.length) : (enc cs).take u = enc (cs.take u) ∧ (enc cs).drop u = enc (cs.drop u) := by
  have e : enc cs = enc (cs.take u) ++ enc (cs.drop u) := by rw [← enc_append, List.take_append_drop]
  have hl : (enc (cs.take u)).length = u := by
    rw [enc_ascii_len (fun c hc => ha c hc), List.length_take]; omega
  rw [e]
  exact ⟨by rw [List.take_append_of_le_length (by omega), List.take_of_length_le (by omega)], by rw [List.drop_append_of_le_length (by omega), List.drop_of_length_le (by omega), List.nil_append]⟩
theorem cost_text {t : T} {ts : List T} (h : t ∈ ts) : 16 * t.text.length + 8192 + cost t.kids ≤ cost ts := by
  induction ts with
  | nil => simp at h
  | cons u us ih =>
    rw [cost_cons]
    rcases List.mem_cons.1 h with rfl | h
    · omega
    · have := ih h; omega
theorem okl_mem {asc : Bool} {ts : List T} (h : OKl asc ts) {t : T} (ht : t ∈ ts) : OK1 asc t ∧ OKl asc t.kids := by
  induction h with
  | nil => simp at ht
  | cons u us h1 h2 h3 _ _ ih3 =>
    rcases List.mem_cons.1 ht with rfl | ht
    · exact ⟨h1, h2⟩
    · exact ih3 ht
theorem Put.refl' {B g : Nat} {mini asc : Bool} {bs : List UInt8} {w : World} (h : St B g mini asc bs w) : Put B g mini asc bs w w := ⟨h, Ke.refl _ _ _⟩
end Go.Proofs.YtkfdcbdlcipmfaaGreatFmt
namespace Go.Proofs.YtkfdcbdlcipmfaaGreatFmt
section
variable {P : Program} {md : Region.Mode} {ops ops' : Array Oper} {Q : Exit → Act → World → Prop} {L : Nat}
def LastQ (P : Program) (ops : Array Oper) (Q : Exit → Act → World → Prop) (L : Nat) : Exit → Act → World → Prop
  | .normal, a, w => wpOp P ops Q L (Q .normal) a w
  | e, a, w => Q e a w
theorem oper_lastQ {o : Oper} {a : Act} {w : World} {K : Act → World → Prop} (h : o.wp P a w K (LastQ P ops Q L)) : o.wp P a w K Q := by
  unfold Oper.wp at *
  generalize (execOp a.eval o).run P w = r at *
  cases r with
  | ok n w' => cases n <;> simp only [Oper.upon] at h ⊢ <;> exact h
  | halt x w' => cases x <;> simp only [Oper.upon] at h ⊢ <;> exact h
theorem letsOut_lastQ (h : LetsOut (LastQ P ops Q L)) : LetsOut Q := h
theorem yielded_same (hd : ∀ j : Nat, (ops'[j]?).bind (·.dst) = (ops[j]?).bind (·.dst)) (t : Array Value) : yielded ops' t = yielded ops t := by
  funext j; unfold yielded; rw [hd j]
theorem ready_same (hs : ops'.size = ops.size) (ha : ∀ i : Nat, (ops'[i]?).map (·.after) = (ops[i]?).map (·.after)) (listed : Array Bool) : Region.ready md ops' listed = Region.ready md ops listed := by
  unfold Region.ready
  rw [hs]
  refine List.filter_congr fun i _ => ?_
  have := ha i
  cases h1 : ops'[i]? with
  | none => cases h2 : ops[i]? with
    | none => rfl
    | some o => rw [h1, h2] at this; cases this
  | some o' => cases h2 : ops[i]? with
    | none => rw [h1, h2] at this; cases this
    | some o =>
      rw [h1, h2] at this
      simp only [Option.map_some, Option.some.injEq] at this
      simp only [Option.map_some, this]
theorem ready_some (hidx : ∀ (i : Nat) (o : Oper), ops[i]? = some o → ∀ e ∈ o.after, Region.binds md e = true → e.on < i) (listed : Array Bool) : ∀ i : Nat, i < ops.size → listed.getD i true = false → Region.ready md ops listed ≠ [] := by
  intro i
  induction i using Nat.strongRecOn with
  | _ i ih =>
    intro hi hl h0
    by_cases hx : ∃ e ∈ (ops[i]).after, Region.binds md e = true ∧ listed.getD e.on false = false
    · obtain ⟨e, he, hb, hz⟩ := hx
      have hlt := hidx i ops[i] (Array.getElem?_eq_getElem hi) e he hb
      by_cases hin : e.on < listed.size
      · refine ih e.on hlt (by omega) ?_ h0
        rw [Array.getD_eq_getD_getElem?, Array.getElem?_eq_getElem hin] at hz ⊢
        exact hz
      · have : listed.getD i true = true := by
          rw [Array.getD_eq_getD_getElem?, Array.getElem?_eq_none (by omega)]; rfl
        rw [this] at hl; cases hl
    · have hm : i ∈ Region.ready md ops listed := by
        unfold Region.ready
        rw [List.mem_filter]
        refine ⟨List.mem_range.2 hi, ?_⟩
        rw [hl, Array.getElem?_eq_getElem hi]
        simp only [Bool.not_false, Bool.true_and, Option.map_some, Option.getD_some, Array.all_eq_true_iff_forall_mem]
        intro e he
        cases hb : Region.binds md e
        · rfl
        · cases hz : listed.getD e.on false
          · exact absurd ⟨e, he, hb, hz⟩ hx
          · rfl
      rw [h0] at hm; cases hm
theorem wpAny_nil {fuel : Nat} {listed : Array Bool} {a : Act} {w : World} (h0 : Region.ready md ops listed = []) (h : wpAny P md ops Q fuel listed a w) : Q .normal a w := by
  cases fuel with
  | zero => exact h.2
  | succ n => exact h.1 h0
theorem wpAny_of_nil {listed : Array Bool} {a : Act} {w : World} (h0 : Region.ready md ops listed = []) (h : Q .normal a w) : ∀ fuel, wpAny P md ops Q fuel listed a w
  | 0 => ⟨h0, h⟩
  | _ + 1 => ⟨fun _ => h, by rw [h0]; simp⟩
def Closed (md : Region.Mode) (ops : Array Oper) (listed : Array Bool) : Prop := ∀ (i : Nat) (o : Oper), ops[i]? = some o → listed.getD i false = true → ∀ e ∈ o.after, Region.binds md e = true → listed.getD e.on false = true
theorem ready_after {listed : Array Bool} {i : Nat} {o : Oper} (ho : ops[i]? = some o) (hi : i ∈ Region.ready md ops listed) : ∀ e ∈ o.after, Region.binds md e = true → listed.getD e.on false = true := by
  intro e he hb
  unfold Region.ready at hi
  rw [List.mem_filter, ho] at hi
  simp only [Option.map_some, Option.getD_some, Bool.and_eq_true, Array.all_eq_true_iff_forall_mem] at hi
  have h5 := hi.2.2 e he
  rw [hb] at h5
  simpa using h5
theorem getD_up {listed : Array Bool} {i j : Nat} (h : listed.getD j false = true) : (listed.setIfInBounds i true).getD j false = true := by
  rw [Array.getD_eq_getD_getElem?] at h ⊢
  rw [Array.getElem?_setIfInBounds]
  by_cases hij : i = j
  · subst hij
    rw [if_pos rfl]
    cases hx : listed[i]? with
    | none => rw [hx] at h; cases h
    | some b => have := (Array.getElem?_eq_some_iff.1 hx).1; simp [this]
  · rw [if_neg hij]; exact h
theorem Closed.step {listed : Array Bool} {i : Nat} (h : Closed md ops listed) (hi : i ∈ Region.ready md ops listed) : Closed md ops (listed.setIfInBounds i true) := by
  intro j o ho hj e he hb
  by_cases hij : j = i
  · subst hij; exact getD_up (ready_after ho hi e he hb)
  · refine getD_up (h j o ho ?_ e he hb)
    rw [Array.getD_eq_getD_getElem?, Array.getElem?_setIfInBounds, if_neg (Ne.symm hij), ← Array.getD_eq_getD_getElem?] at hj
    exact hj
theorem wpAny_last {oN : Oper} {oL : Oper} {c : Value} (hL : ops[L]? = some oL) (hop : ops' = ops.setIfInBounds L oN) (hN : oN.op = .move (.const c)) (hNg : oN.guard = none) (hNd : oN.dst = none) (hLd : oL.dst = none) (hNa : oN.after = oL.after)
    (hidx : ∀ (i : Nat) (o : Oper), ops[i]? = some o → ∀ e ∈ o.after, Region.binds md e = true → e.on < i)
    (hall : ∀ listed : Array Bool, Closed md ops listed → (∀ e ∈ oL.after, Region.binds md e = true → listed.getD e.on false = true) → ∀ j : Nat, j < ops.size → j ≠ L → listed.getD j false = true) :
    ∀ (fuel : Nat) (listed : Array Bool) (a : Act) (w : World), Closed md ops listed → listed.size = ops.size → listed.getD L true = false → wpAny P md ops' (LastQ P ops Q L) fuel listed a w → wpAny P md ops Q fuel listed a w := by
  have hLs : L < ops.size := (Array.getElem?_eq_some_iff.1 hL).1
  have hget : ∀ j : Nat, ops'[j]? = if j = L then some oN else ops[j]? := fun j => by
    rw [hop, Array.getElem?_setIfInBounds]
    by_cases h : j = L
    · subst h; simp [hLs]
    · simp [h, Ne.symm h]
  have hd : ∀ j : Nat, (ops'[j]?).bind (·.dst) = (ops[j]?).bind (·.dst) := fun j => by
    rw [hget j]; split
    · rename_i h; subst h; rw [hL]; simp [hNd, hLd]
    · rfl
  have ha : ∀ j : Nat, (ops'[j]?).map (·.after) = (ops[j]?).map (·.after) := fun j => by
    rw [hget j]; split
    · rename_i h; subst h; rw [hL]; simp [hNa]
    · rfl
  have hsz : ops'.size = ops.size := by rw [hop]; simp
  have hr := ready_same (md := md) hsz ha
  have hy := yielded_same hd
  intro fuel
  induction fuel with
  | zero =>
    intro listed a w hcl hs hl h
    exact absurd (by rw [← hr]; exact h.1) (ready_some hidx listed L hLs hl)
  | succ n ih =>
    intro listed a w hcl hs hl h
    refine ⟨fun h0 => absurd h0 (ready_some hidx listed L hLs hl), fun i hi => ?_⟩
    have h2 := h.2 i (by rw [hr]; exact hi)
    by_cases hiL : i = L
    · subst hiL
      have hnil : Region.ready md ops (listed.setIfInBounds i true) = [] := by
        unfold Region.ready
        rw [List.filter_eq_nil_iff]
        intro j hj
        rw [List.mem_range] at hj
        have hlj : (listed.setIfInBounds i true).getD j true = true := by
          rw [Array.getD_eq_getD_getElem?, Array.getElem?_setIfInBounds]
          by_cases hji : i = j
          · subst hji; rw [if_pos rfl]; split <;> rfl
          · rw [if_neg hji]
            have h5 := hall listed hcl (ready_after hL hi) j hj (Ne.symm hji)
            rw [Array.getD_eq_getD_getElem?] at h5
            cases h6 : listed[j]? with
            | none => rfl
            | some b => rw [h6] at h5; exact h5
        rw [hlj]; simp
      have h3 : wpAny P md ops' (LastQ P ops Q i) n (listed.setIfInBounds i true) a w := by
        unfold wpOp at h2
        rw [hget i, if_pos rfl] at h2
        simp only [Region.wanted, hNg, if_true] at h2
        rcases h2 with h2 | ⟨h2, _⟩
        · unfold Oper.wp execOp at h2
          simp only [hN] at h2
          have e : a.put oN.dst c = a := by rw [hNd]; rfl
          have h5 : wpAny P md ops' (LastQ P ops Q i) n (listed.setIfInBounds i true) (a.put oN.dst c) w := h2
          rw [e] at h5; exact h5
        · exfalso
          have h5 := h2.1
          unfold execOp at h5
          simp only [hN] at h5
          exact absurd (show noRoomEvent ∈ (#[] : Array Event) from h5) (by simp)
      have h4 : wpOp P ops Q i (Q .normal) a w := wpAny_nil (by rw [hr]; exact hnil) h3
      exact wpOp_mono (fun a' w' hq => wpAny_of_nil hnil hq n) h4
    · have hl' : (listed.setIfInBounds i true).getD L true = false := by
        rw [Array.getD_eq_getD_getElem?, Array.getElem?_setIfInBounds, if_neg hiL, ← Array.getD_eq_getD_getElem?]; exact hl
      have h3 : wpOp P ops Q i (wpAny P md ops' (LastQ P ops Q L) n (listed.setIfInBounds i true)) a w := by
        unfold wpOp at h2 ⊢
        rw [hget i, if_neg hiL] at h2
        cases ho : ops[i]? with
        | none => rw [ho] at h2; exact h2
        | some o =>
          rw [ho] at h2
          simp only [] at h2 ⊢
          rw [hy] at h2
          split
          · rename_i hw
            rw [if_pos hw] at h2
            exact h2.imp oper_lastQ fun x => ⟨x.1, letsOut_lastQ x.2⟩
          · rename_i hw
            rw [if_neg hw] at h2
            exact h2
      exact wpOp_mono (fun a' w' hq => ih _ a' w' (hcl.step hi) (by simpa using hs) hl' hq) h3
end
theorem last_op {P : Program} {md : Region.Mode} {ops : Array Oper} {Q : Exit → Act → World → Prop} {S : World → Prop} {listed : Array Bool} {a : Act} {w : World} (i : Nat) (op0 : Op) (d0 : Option Tmp) (hr : Region.ready md ops listed = [i]) (hi : (ops[i]?).map (fun o => (o.op, o.guard, o.dst)) = some (op0, none, d0))
    (hd : Region.ready md ops (listed.setIfInBounds i true) = []) (h : ∀ o : Oper, o.op = op0 → o.dst = d0 → o.wp P a w (fun a' w' => S w' ∧ Q .normal a' w') Q) : wpAnyH P md ops Q S 1 listed a w := by
  obtain ⟨o, ho, he⟩ := Option.map_eq_some_iff.1 hi
  simp only [Prod.mk.injEq] at he
  obtain ⟨h1, h2, h3⟩ := he
  refine wpAnyH_all hr (by simp) fun j hj => ?_
  have hji : j = i := by simpa using hj
  subst hji
  refine wpOp_mono (K := fun a' w' => S w' ∧ Q .normal a' w') (fun a' w' h => ⟨h.1, hd, h.2⟩) ?_
  unfold wpOp
  simp only [ho]
  rw [if_pos (by simp [Region.wanted, h2])]
  exact .inl (h o h1 h3)
theorem ite_of {c : Prop} [Decidable c] {A B : Prop} (h : c) (a : A) : if c then A else B := by rw [if_pos h]; exact a
theorem next_op {P : Program} {md : Region.Mode} {ops : Array Oper} {Q : Exit → Act → World → Prop} {S : World → Prop} {listed : Array Bool} {a : Act} {w : World} {fuel : Nat} (i : Nat) (op0 : Op) (d0 : Option Tmp) (hr : Region.ready md ops listed = [i]) (hi : (ops[i]?).map (fun o => (o.op, o.guard, o.dst)) = some (op0, none, d0))
    (v : Value) (hv : ∀ o : Oper, o.op = op0 → (execOp a.eval o).run P w = .ok (.value v) w) (hS : S w) (h : wpAnyH P md ops Q S fuel (listed.setIfInBounds i true) (a.put d0 v) w) : wpAnyH P md ops Q S (fuel + 1) listed a w := by
  obtain ⟨o, ho, he⟩ := Option.map_eq_some_iff.1 hi
  simp only [Prod.mk.injEq] at he
  obtain ⟨h1, h2, h3⟩ := he
  refine wpAnyH_all hr (by simp) fun j hj => ?_
  have hji : j = i := by simpa using hj
  subst hji
  unfold wpOp
  simp only [ho]
  rw [if_pos (by simp [Region.wanted, h2])]
  refine .inl ?_
  unfold Oper.wp
  rw [hv o h1]
  simp only [Oper.upon]
  rw [h3]
  exact ⟨hS, h⟩
theorem last_val {P : Program} {md : Region.Mode} {ops : Array Oper} {Q : Exit → Act → World → Prop} {S : World → Prop} {listed : Array Bool} {a : Act} {w : World} (i : Nat) (op0 : Op) (d0 : Option Tmp) (hr : Region.ready md ops listed = [i]) (hi : (ops[i]?).map (fun o => (o.op, o.guard, o.dst)) = some (op0, none, d0))
    (hd : Region.ready md ops (listed.setIfInBounds i true) = []) (v : Value) (hv : ∀ o : Oper, o.op = op0 → (execOp a.eval o).run P w = .ok (.value v) w) (hS : S w) (h : Q .normal (a.put d0 v) w) : wpAnyH P md ops Q S 1 listed a w :=
  next_op (fuel := 0) i op0 d0 hr hi v hv hS ⟨hd, h⟩
def idxB (md : Region.Mode) (ops : Array Oper) : Bool := (List.range ops.size).all fun i => match ops[i]? with | some o => o.after.all fun e => !Region.binds md e || decide (e.on < i) | none => true
def reachB (md : Region.Mode) (ops : Array Oper) : Nat → Nat → Nat → Bool
  | 0, i, j => decide (i = j)
  | f + 1, i, j => decide (i = j) || (match ops[i]? with | some o => o.after.any (fun e => Region.binds md e && reachB md ops f e.on j) | none => false)
def waitsB (md : Region.Mode) (ops : Array Oper) (L : Nat) : Bool := (List.range ops.size).all fun j => reachB md ops 4 L j
theorem idxB_spec {md : Region.Mode} {ops : Array Oper} (h : idxB md ops = true) : ∀ (i : Nat) (o : Oper), ops[i]? = some o → ∀ e ∈ o.after, Region.binds md e = true → e.on < i := by
  intro i o ho e he hb
  unfold idxB at h
  have hi : i < ops.size := (Array.getElem?_eq_some_iff.1 ho).1
  have h1 := List.all_eq_true.1 h i (List.mem_range.2 hi)
  rw [ho] at h1
  have h2 := (Array.all_eq_true_iff_forall_mem.1 h1) e he
  rw [hb] at h2
  simpa using h2
theorem reach_listed {md : Region.Mode} {ops : Array Oper} {listed : Array Bool} (hc : Closed md ops listed) : ∀ (f i j : Nat), listed.getD i false = true → reachB md ops f i j = true → listed.getD j false = true := by
  intro f
  induction f with
  | zero =>
    intro i j hi h
    unfold reachB at h
    have : i = j := by simpa using h
    subst this; exact hi
  | succ f ih =>
    intro i j hi h
    unfold reachB at h
    rw [Bool.or_eq_true] at h
    rcases h with h | h
    · have : i = j := by simpa using h
      subst this; exact hi
    · cases ho : ops[i]? with
      | none => rw [ho] at h; cases h
      | some o =>
        rw [ho] at h
        obtain ⟨k, hk, h2⟩ := Array.any_eq_true.1 h
        simp only [Bool.and_eq_true] at h2
        exact ih _ j (hc i o ho hi _ (Array.getElem_mem hk) h2.1) h2.2
theorem waitsB_spec {md : Region.Mode} {ops : Array Oper} {L : Nat} {oL : Oper} (hL : ops[L]? = some oL) (h : waitsB md ops L = true) : ∀ listed : Array Bool, Closed md ops listed → (∀ e ∈ oL.after, Region.binds md e = true → listed.getD e.on false = true) → ∀ j : Nat, j < ops.size → j ≠ L → listed.getD j false = true := by
  intro listed hc ha j hj hne
  unfold waitsB at h
  have h1 := List.all_eq_true.1 h j (List.mem_range.2 hj)
  unfold reachB at h1
  rw [Bool.or_eq_true] at h1
  rcases h1 with h1 | h1
  · exact absurd (by simpa using h1 : L = j) (Ne.symm hne)
  · rw [hL] at h1
    obtain ⟨k, hk, h2⟩ := Array.any_eq_true.1 h1
    simp only [Bool.and_eq_true] at h2
    exact reach_listed hc _ _ _ (ha _ (Array.getElem_mem hk) h2.1) h2.2
theorem closed_none {md : Region.Mode} {ops : Array Oper} (n : Nat) : Closed md ops (Array.replicate n false) := by
  intro i o ho hi
  rw [Array.getD_eq_getD_getElem?, Array.getElem?_replicate] at hi
  split at hi <;> cases hi
theorem wp_region_lastly {P : Program} {ops : Array Oper} {Q : Exit → Act → World → Prop} {S : World → Prop} {id : Nat} {a : Act} {w : World} (L : Nat) (oL : Oper) (hL : ops[L]? = some oL) (hg : oL.guard = none) (hd : oL.dst = none)
    (hm : P.follows .mixedOrders = true) (hB : idxB .any ops = true) (hW : waitsB .any ops L = true)
    (h : wpAnyH P .any (ops.setIfInBounds L { oL with op := .move (.const undef) }) (LastQ P ops Q L) S ops.size (Array.replicate ops.size false) a w.drew) : (Code.region id ops true).wp P Q a w :=
  wp_region_any hm (wpAny_last (oN := { oL with op := .move (.const undef) }) (c := undef) hL rfl rfl hg hd hd rfl (idxB_spec hB) (waitsB_spec hL hW) _ _ _ _ (closed_none _) (by simp) (by
    have : L < ops.size := (Array.getElem?_eq_some_iff.1 hL).1
    simp [Array.getD_eq_getD_getElem?, this]) (wpAny_of_held _ _ _ _ h))
theorem lastQ_op {P : Program} {ops : Array Oper} {Q : Exit → Act → World → Prop} {L : Nat} {a : Act} {w : World} (op0 : Op) (d0 : Option Tmp) (hi : (ops[L]?).map (fun o => (o.op, o.guard, o.dst)) = some (op0, none, d0))
    (h : ∀ o : Oper, o.op = op0 → o.dst = d0 → o.wp P a w (Q .normal) Q) : LastQ P ops Q L .normal a w := by
  obtain ⟨o, ho, he⟩ := Option.map_eq_some_iff.1 hi
  simp only [Prod.mk.injEq] at he
  obtain ⟨h1, h2, h3⟩ := he
  show wpOp P ops Q L (Q .normal) a w
  unfold wpOp
  simp only [ho]
  rw [if_pos (by simp [Region.wanted, h2])]
  exact .inl (h o h1 h3)
theorem take_op {P : Program} {md : Region.Mode} {ops : Array Oper} {Q : Exit → Act → World → Prop} {S : World → Prop} {listed : Array Bool} {a : Act} {w : World} {fuel : Nat} (i : Nat) (op0 : Op) (d0 : Option Tmp) (hi : (ops[i]?).map (fun o => (o.op, o.guard, o.dst)) = some (op0, none, d0))
    (hs : Region.noSelect ops = true) (hf : Region.free md ops listed i = true) (hr : (Region.ready md ops listed).contains i = true) (hQ : ∀ c a a' w, Q (.panic c) a w → Q (.panic c) a' w)
    (v : Value) (hv : ∀ o : Oper, o.op = op0 → ∀ w, S w → (execOp a.eval o).run P w = .ok (.value v) w) (hS : S w) (h : wpAnyH P md ops Q S fuel (listed.setIfInBounds i true) (a.put d0 v) w) : wpAnyH P md ops Q S (fuel + 1) listed a w := by
  obtain ⟨o, ho, he⟩ := Option.map_eq_some_iff.1 hi
  simp only [Prod.mk.injEq] at he
  obtain ⟨h1, h2, h3⟩ := he
  refine wpAnyH_take (v := v) ho hs hf hr (fun c a w h => hQ c _ _ w h) (.inl ⟨by simp [Region.wanted, h2], hv o h1⟩) hS ?_
  rw [h3]; exact h
theorem ready_op {P : Program} {md : Region.Mode} {ops : Array Oper} {Q : Exit → Act → World → Prop} {S : World → Prop} {listed : Array Bool} {a : Act} {w : World} {fuel : Nat} (i : Nat) (op0 : Op) (d0 : Option Tmp) (hr : Region.ready md ops listed = [i]) (hi : (ops[i]?).map (fun o => (o.op, o.guard, o.dst)) = some (op0, none, d0))
    (h : ∀ o : Oper, o.op = op0 → o.guard = none → o.dst = d0 → o.wp P a w (fun a' w' => S w' ∧ wpAnyH P md ops Q S fuel (listed.setIfInBounds i true) a' w') Q) : wpAnyH P md ops Q S (fuel + 1) listed a w := by
  obtain ⟨o, ho, he⟩ := Option.map_eq_some_iff.1 hi
  simp only [Prod.mk.injEq] at he
  obtain ⟨h1, h2, h3⟩ := he
  refine wpAnyH_all hr (by simp) fun j hj => ?_
  have hji : j = i := by simpa using hj
  subst hji
  unfold wpOp
  simp only [ho]
  rw [if_pos (by simp [Region.wanted, h2])]
  exact .inl (h o h1 h2 h3)
theorem wp_sym {P : Program} {c : Code} {Q : Exit → Act → World → Prop} {tm : Array Value} {ds : List Deferred} {w : World} (R : Array Value → Prop) (h : R tm) (k : ∀ T, R T → c.wp P Q ⟨T, ds⟩ w) : c.wp P Q ⟨tm, ds⟩ w := k tm h
def Sl (T : Array Value) (j : Nat) (x : Value) : Prop := T[j]? = some x
theorem Sl.get {T : Array Value} {j : Nat} {x : Value} (h : Sl T j x) : ∀ hj : j < T.size, T[j] = x := fun hj => by
  unfold Sl at h; rw [Array.getElem?_eq_getElem hj] at h; injection h
theorem Sl.set {T : Array Value} {i j : Nat} {v x : Value} (h : Sl T j x) (hne : i ≠ j) : Sl (T.setIfInBounds i v) j x := by
  unfold Sl at h ⊢; rw [Array.getElem?_setIfInBounds_ne hne]; exact h
theorem Sl.new {T : Array Value} {i : Nat} {v : Value} (h : i < T.size) : Sl (T.setIfInBounds i v) i v := by
  unfold Sl; simp [h]
theorem sz_set {T : Array Value} {n i : Nat} {v : Value} (h : T.size = n) : (T.setIfInBounds i v).size = n := by simp [h]
def condW (v : Value) (A B : Prop) : Prop := match v with | .bool b => (b = true → A) ∧ (b = false → B) | _ => False
theorem condW_t {A B : Prop} (h : A) : condW (.bool true) A B := ⟨fun _ => h, fun h => by cases h⟩
theorem condW_f {A B : Prop} (h : B) : condW (.bool false) A B := ⟨(fun h => by cases h), fun _ => h⟩
theorem wp_cond_w {P : Program} {Q : Exit → Act → World → Prop} {a : Act} {w : World} {x : Operand} {c1 c2 : Code} (h : condW (a.eval x) (c1.wp P Q a w) (c2.wp P Q a w)) : (Code.cond x c1 c2).wp P Q a w := by
  generalize hv : a.eval x = v at h
  cases v with
  | bool b =>
    obtain ⟨h1, h2⟩ := h
    exact wp_cond_split hv h1 h2
  | _ => exact h.elim
end Go.Proofs.YtkfdcbdlcipmfaaGreatFmt
namespace Go.Proofs.YtkfdcbdlcipmfaaGreatFmt
open Go.RowKit Css
structure NlOk (nl : List Ch) : Prop where
  is : nl = [] ∨ ∃ w, Blank w ∧ nl = [⟨none, w⟩]
  size : (enc (flat nl)).length ≤ 32
theorem NlOk.nil : NlOk [] := ⟨.inl rfl, by decide⟩
theorem Pre.openedN {asc has : Bool} {ts : List T} {i : Nat} {pre ws nl kc : List Ch} {t : T} {out : List Int} (h : Pre asc ts i has pre) (hd : ts.drop i = t :: ts.drop (i + 1)) (hw : WsOk has ws) (hn : NlOk nl) (ho : opens t.kind)
    (hout : Own asc (t.after || headBefore (ts.drop (i + 1))) t out) (hs : (enc out).length ≤ 16 * t.text.length + 8) (hk : Prints asc t.kids (headBefore t.kids) kc) (hks : (enc (flat kc)).length ≤ cost t.kids + 1) :
    Pre asc ts (i + 1) (t.after || headBefore (ts.drop (i + 1))) (pre ++ (ws ++ ⟨some (tkOf t), out⟩ :: (nl ++ (kc ++ [⟨some ⟨closeKind t.kind, 0, []⟩, [closer t.kind]⟩])))) := by
  refine ⟨fun l hl => ?_, ?_⟩
  · have h1 := Prints.opened t (ts.drop (i + 1)) has ws nl out kc l hw.yes hw.no ho hout hn.is hk hl
    rw [← hd] at h1
    have := h.more _ h1
    simpa using this
  · have h1 := h.size
    have h2 := hw.size
    have h3 := wd_pos (closer t.kind)
    have h4 := hn.size
    rw [hd, cost_cons] at h1
    simp only [flat_append, flat_cons, flat_nil, List.append_nil, enc_append, List.length_append, enc_length_cons]
    have e : (enc ([] : List Int)).length = 0 := rfl
    omega
def lineC (m : Nat) : List Int := 10 :: List.replicate (2 * m) 32
theorem enc_rep (n : Nat) : enc (List.replicate n 32) = List.replicate n 32 := by
  induction n with
  | zero => rfl
  | succ n ih => rw [List.replicate_succ, enc_cons, ih]; rfl
theorem enc_line (m : Nat) : enc (lineC m) = [10] ++ List.replicate (2 * m) 32 := by
  unfold lineC; rw [enc_cons, enc_rep]; rfl
theorem blank_line (m : Nat) : Blank (lineC m) := ⟨by simp [lineC], by
  intro c hc
  simp only [lineC, List.mem_cons, List.mem_replicate] at hc
  omega⟩
theorem line_size {m : Nat} (h : m ≤ 15) : (enc (flat [(⟨none, lineC m⟩ : Ch)])).length ≤ 32 := by
  rw [flat_cons, flat_nil, List.append_nil, enc_line, List.length_append, List.length_replicate]; simp; omega
theorem wsOk_line {m : Nat} (h : m ≤ 15) : WsOk true [⟨none, lineC m⟩] := ⟨fun _ => ⟨_, blank_line m, rfl⟩, fun h => (by cases h), line_size h⟩
theorem nlOk_line {m : Nat} (h : m ≤ 15) : NlOk [⟨none, lineC m⟩] := ⟨.inr ⟨_, blank_line m, rfl⟩, line_size h⟩
theorem set_row3 {w : World} {b : Nat} {x y z : Value} {ty : TypeId} (u : Value) (h : w.heap[b]? = some (.cells #[x, y, z] ty (0, 0))) : (w.setCell ⟨b, 0, none⟩ u).heap[b]? = some (.cells #[u, y, z] ty (0, 0)) := by
  rw [setCell_eq_setRow w b 0 _ ty (0, 0) u h]
  exact setRow_heap w b _ _ ty (0, 0) h
theorem set_keep {w : World} {b o : Nat} (u : Value) {k : Nat} (h : k ≠ b) : (w.setCell ⟨b, o, none⟩ u).heap[k]? = w.heap[k]? := Below.heap_setCell _ _ _ _ h
theorem put_set {B g : Nat} {mini asc : Bool} {bs : List UInt8} {w wx : World} (h : Put B g mini asc bs w wx) {b o : Nat} {cs : Array Value} {ty : TypeId} (u : Value) (hw : w.heap.size ≤ b) (hB : B ≤ b) (hrow : wx.heap[b]? = some (.cells cs ty (0, 0))) (hT : ty ≠ 5) (hg : b ≠ g) :
    Put B g mini asc bs w (wx.setCell ⟨b, o, none⟩ u) := by
  have hsz : (wx.setCell ⟨b, o, none⟩ u).heap.size = wx.heap.size := by simp [World.setCell]
  refine ⟨⟨?_, by rw [hsz]; exact h.st.base⟩, ⟨h.ke.os, h.ke.tape, h.ke.output, by rw [hsz]; exact h.ke.size, fun i hi => ?_, fun i hi h1 h2 => ?_⟩⟩
  · obtain ⟨v, hp, ho⟩ := h.st.out
    refine ⟨v, hp.same (set_keep u (Ne.symm hg)), own_keep ho fun q hq => set_keep u ?_⟩
    rintro rfl
    have h1 := (own_lt ho hq).2.2
    rw [hrow] at h1
    obtain ⟨cs', fr, e⟩ := h1
    injection e with e
    injection e with _ e _
    exact hT e
  · rw [set_keep u (by omega)]; exact h.ke.low i hi
  · rw [set_keep u (by omega)]; exact h.ke.block i hi h1 h2
theorem sz_lt {T : Array Value} {n i : Nat} (h : T.size = n) (hi : i < n := by decide) : i < T.size := by omega
theorem kp {T : Array Value} {j : Nat} {x : Value} (h : Sl T j x := by (repeat (with_reducible refine Sl.set ?_ (by decide))); exact Hid.out (by assumption)) : Sl T j x := h
theorem nw {T : Array Value} {j : Nat} {x : Value} (h : Sl T j x := by (repeat (with_reducible refine Sl.set ?_ (by decide))); exact Sl.new (by (try simp only [Array.size_setIfInBounds]); exact sz_lt (by assumption))) : Sl T j x := h
theorem zs {T : Array Value} {n : Nat} (h : T.size = n := by (repeat (with_reducible refine sz_set ?_)); assumption) : T.size = n := h
end Go.Proofs.YtkfdcbdlcipmfaaGreatFmt
