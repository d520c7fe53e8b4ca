/- Walks: the printer: small functions around it. -/
import Derived.Test.YtkfdcbdlcipmfaaGreatFmtG10
import Derived.Test.YtkfdcbdlcipmfaaGreatFmtG09
import Derived.Test.YtkfdcbdlcipmfaaGreatFmtG14
import Derived.Test.YtkfdcbdlcipmfaaGreatFmtG12
import Derived.Test.YtkfdcbdlcipmfaaGreatFmtG08
set_option linter.unusedVariables false
set_option linter.unusedSimpArgs false
namespace Go.Proofs.YtkfdcbdlcipmfaaGreatFmt
open Go.RowKit Css
theorem below_set0 {B : Nat} {w : World} {b o : Nat} (hb : B ≤ b) (u : Value) : Below B w (w.setCell ⟨b, o, none⟩ u) :=
  ⟨rfl, rfl, rfl, by simp [World.setCell], fun i hi => Below.heap_setCell _ _ _ _ (by simp; omega)⟩
abbrev ctV (ptr : Value) (s : ByteArray) (lo pl u' k ws : Int) : Value := .agg #[ptr, .string s, .int .i32 lo, .int .u32 pl, .int .u16 u', .int .u8 k, .int .u8 ws]
def RetStr (s : ByteArray) (w : World) (e : Ending) (w' : World) : Prop := e = .returned (.string s) ∧ Below w.heap.size w w'
set_option maxRecDepth 100000 in
theorem dimValue_any (ptr : Value) (hp : ptr.oneCell' = true) (s : ByteArray) (lo pl k ws : Int) (u : Nat) (hu : u ≤ s.size) (hs : s.size ≤ 2147483647) (w : World) :
    Calls Tryz.prog 110 #[ctV ptr s lo pl u k ws] w (RetStr (s.extract 0 u) w) := by
  have HB := Lib.hid (box_below (.cells #[ptr, .string s, .int .i32 lo, .int .u32 pl, .int .u16 u, .int .u8 k, .int .u8 ws] 105) w)
  have h0 : (0 : Int) ≤ (u : Int) := by omega
  have h1 : (u : Int) ≤ (s.size : Int) := by omega
  have h2 : (s.size : Int) ≤ 2147483647 := by omega
  clear hu hs
  go_enter Tryz.func110, Tryz.ntmps110
  go_wp2_with fail
  go_ret
  exact ⟨rfl, HB.out⟩
set_option maxRecDepth 100000 in
theorem dimUnit_any (ptr : Value) (hp : ptr.oneCell' = true) (s : ByteArray) (lo pl k ws : Int) (u : Nat) (hu : u ≤ s.size) (hs : s.size ≤ 2147483647) (w : World) :
    Calls Tryz.prog 112 #[ctV ptr s lo pl u k ws] w (RetStr (s.extract u s.size) w) := by
  have HB := Lib.hid (box_below (.cells #[ptr, .string s, .int .i32 lo, .int .u32 pl, .int .u16 u, .int .u8 k, .int .u8 ws] 105) w)
  have h0 : (0 : Int) ≤ (u : Int) := by omega
  have h1 : (u : Int) ≤ (s.size : Int) := by omega
  have h2 : (s.size : Int) ≤ 2147483647 := by omega
  clear hu hs
  go_enter Tryz.func112, Tryz.ntmps112
  go_wp2_with fail
  go_ret
  exact ⟨rfl, HB.out⟩
theorem info106 : (Tryz.prog.info? 106).map (fun i => (i.zero, i.size, i.bytes)) = some (some (.slice none 0 0), 1, 24) := by kernel_rfl
def RetMap (w : World) (e : Ending) (w' : World) : Prop := ∃ A, e = .returned (.agg #[.slice (some A) 1 1]) ∧ Below w.heap.size w w'
set_option maxRecDepth 100000 in
theorem newMap_any (w : World) : Calls Tryz.prog 46 #[.int .i64 1] w (RetMap w) := by
  obtain ⟨i, hi, hz0, hz1, hz2⟩ := parts_of info106
  obtain ⟨w1, hr, _, hg⟩ := run_makeSlice_full (P := Tryz.prog) (w := w.alloc (.cells #[.slice none 0 0] 133)) 0 131 106 i (.slice none 0 0) 1 Tryz.underlying131 hi hz0 hz1 .i64 .i64 1 (by omega) (by rw [hz2]; omega) (by unfold maxLen; omega) (Nat.zero_le _)
  have hr' : (Instr.makeSlice 131 (.int .i64 1) (.int .i64 1)).run Tryz.prog (w.alloc (.cells #[.slice none 0 0] 133)) = .ok (.slice (some ⟨(w.alloc (.cells #[.slice none 0 0] 133)).heap.size, 0, none⟩) 1 1) w1 := hr
  generalize (w.alloc (.cells #[.slice none 0 0] 133)).heap.size = m at hr'
  have hb : Below w.heap.size w w1 := ((Below.refl _ _).alloc (Nat.le_refl _) _).grown hg (by simp) (by simp)
  have hw1 : w1.heap[w.heap.size]? = some (.cells #[.slice none 0 0] 133) := by
    rw [hg.block w.heap.size (by simp) (by simp)]; exact heap_alloc_new w _
  have c0 := cell_blk hw1 0
  have f0 := frozen_blk hw1 0
  have HB := Lib.hid (hb.trans (below_set0 (o := 0) (Nat.le_refl _) (.slice (some ⟨m, 0, none⟩) 1 1)))
  have r0 : (w1.setCell ⟨w.heap.size, 0, none⟩ (.slice (some ⟨m, 0, none⟩) 1 1)).cell? ⟨w.heap.size, 0, none⟩ = some (.slice (some ⟨m, 0, none⟩) 1 1) := World.cell?_setCell_same _ _ _ c0
  clear hr hg hb hw1 hi hz0 hz1 hz2
  go_enter Tryz.func46, Tryz.ntmps46
  go_wp2_with fail
  refine bodyPost_ret (v := .agg #[.slice (some ⟨m, 0, none⟩) 1 1]) (by simp [results, Tryz.results46, go_sem, r0]) rfl ?_
  exact ⟨_, rfl, HB.out⟩
end Go.Proofs.YtkfdcbdlcipmfaaGreatFmt
namespace Go.Proofs.YtkfdcbdlcipmfaaGreatFmt
open Go.RowKit Css Go.Stop
open Go.Extern.Stop Go.Extern
variable {F : Go.Stop.Interp} {W0 w w' : World}
def eE : ByteArray := ⟨#[101, 69]⟩
def HasE (cs : List Int) : Prop := ∃ c ∈ cs, c = 101 ∨ c = 69
set_option maxHeartbeats 4000000 in
set_option maxRecDepth 100000 in
theorem indexE (cs : List Int) (hv : AllV cs) (s : ByteArray) (h : s.data.toList = enc cs) (w : World) :
    Calls Tryz.prog 137 #[.string s, .string eE] w fun e w' => (∃ r : Int, e = .returned (.int .i64 r) ∧ (0 ≤ r ↔ HasE cs)) ∧ Below w.heap.size w w' := by
  have HH := Lib.hid h
  have HV := Lib.hid hv
  have HIT0 : Hid ((w.iter s 0).heap[w.heap.size]? = some (.stringIter s 0)) := World.iter_heap w s 0
  have HK0 : Hid (Below w.heap.size w (w.iter s 0)) := (Below.refl _ _).alloc (Nat.le_refl _) _
  clear h hv
  rename World => w0
  go_enter Tryz.func137, Tryz.ntmps137
  go_wp2_with fail
  go_loopg [] cs.length (fun k wr => ∃ (A R : List Int), Hid (A ++ R = cs ∧ ¬ HasE A) ∧ R.length = k ∧ Hid (wr.heap[w0.heap.size]? = some (.stringIter s (enc A).length)) ∧ Hid (Below w0.heap.size w0 wr))
  case atStart => exact ⟨[], cs, ⟨rfl, by rintro ⟨c, hc, _⟩; simp at hc⟩, rfl, HIT0.out, HK0.out⟩
  case round =>
    obtain ⟨A, R, HA, hk, HIT, HK⟩ := hrel
    clear HIT0 HK0
    cases R with
    | nil =>
      have hend : (enc A).length = s.size := by
        have := HA.out.1
        rw [List.append_nil] at this
        rw [this, size_enc HH.out]
      have hnext : ∀ ty, (Instr.next (.pointer (some ⟨w0.heap.size, 0, none⟩)) true ty).run Tryz.prog wr = _ := fun ty => Lib.run_next_end_at wr w0.heap.size s _ ty HIT.out (by omega)
      clear hend
      go_wp2_with fail
      go_ret
      refine ⟨⟨_, rfl, ?_⟩, HK.out⟩
      have := HA.out
      rw [List.append_nil] at this
      rw [← this.1]
      exact ⟨fun h => absurd h (by decide), fun h => absurd h this.2⟩
    | cons c t =>
      have hvc : Valid c := HV.out c (by rw [← HA.out.1]; simp)
      have hs2 : s.data.toList = enc A ++ (enc1 c ++ enc t) := by rw [HH.out, ← HA.out.1, enc_append, enc_cons]
      have hsz : s.size = (enc A).length + (wd c + (enc t).length) := by rw [size_enc hs2, List.length_append, List.length_append, enc1_length]
      have hwd := wd_pos c
      have hdec := decode_enc hvc hs2
      have hnext : ∀ ty, (Instr.next (.pointer (some ⟨w0.heap.size, 0, none⟩)) true ty).run Tryz.prog wr = _ := fun ty => Lib.run_next_any_at wr w0.heap.size s _ ty HIT.out (by omega)
      simp only [hdec] at hnext
      have hcn : ((c.toNat : Nat) : Int) = c := by unfold Valid at hvc; omega
      rw [hcn] at hnext
      have HIT1 := Lib.hid (Lib.iterAt_heap wr w0.heap.size s (enc A).length ((enc A).length + wd c) HIT.out)
      have HK1 : Hid (Below w0.heap.size w0 (wr.iterAt w0.heap.size s ((enc A).length + wd c))) := Lib.below_iterAt HK.out (Nat.le_refl _) s _
      generalize wr.iterAt w0.heap.size s ((enc A).length + wd c) = W1 at hnext HIT1 HK1
      have hp0 : (0 : Int) ≤ ((enc A).length : Int) := by omega
      have HP0 := Lib.hid hp0
      have hk2 : t.length < gk := by simp at hk; omega
      have HK2 := Lib.hid hk2
      have hlt : w0.heap.size < W1.heap.size := (Array.getElem?_eq_some_iff.1 HIT1.out).1
      have HLT := Lib.hid hlt
      clear hs2 hdec hcn hsz hwd HIT HK hvc hk hk2 hlt hp0
      have HI0 : Hid ((W1.iter eE 0).heap[W1.heap.size]? = some (.stringIter eE 0)) := World.iter_heap W1 eE 0
      have HB0 : Hid (Below W1.heap.size W1 (W1.iter eE 0)) := (Below.refl _ _).alloc (Nat.le_refl _) _
      go_wp2_with fail
      go_loopg [] 2 (fun k wx => ∃ pos : Nat, pos + k = 2 ∧ Hid ((1 ≤ pos → c ≠ 101) ∧ (2 ≤ pos → c ≠ 69)) ∧ Hid (wx.heap[W1.heap.size]? = some (.stringIter eE pos)) ∧ Hid (Below W1.heap.size W1 wx))
      case atStart => exact ⟨0, rfl, ⟨by omega, by omega⟩, HI0.out, HB0.out⟩
      case round =>
        obtain ⟨pos, hpk, HC, HI, HB⟩ := hrel
        clear HI0 HB0 hnext
        have HOUT : Hid (∀ W, Below W1.heap.size W1 W → c ≠ 101 → c ≠ 69 → ∃ (A R : List Int), Hid (A ++ R = cs ∧ ¬ HasE A) ∧ R.length = t.length ∧ Hid (W.heap[w0.heap.size]? = some (.stringIter s (enc A).length)) ∧ Hid (Below w0.heap.size w0 W)) := fun W hW h1 h2 =>
          ⟨A ++ [c], t, ⟨by rw [← HA.out.1]; simp, by
            rintro ⟨x, hx, hx2⟩
            rw [List.mem_append, List.mem_singleton] at hx
            rcases hx with hx | rfl
            · exact HA.out.2 ⟨x, hx, hx2⟩
            · omega⟩, rfl, by
            show _ = _
            rw [enc_append, List.length_append, enc_cons, List.length_append, enc1_length]
            exact (hW.block _ HLT.out).trans HIT1.out, HK1.out.trans (hW.mono (Nat.le_of_lt HLT.out))⟩
        have HRET : Hid (c = 101 ∨ c = 69 → HasE cs) := fun h => ⟨c, by rw [← HA.out.1]; simp, h⟩
        have hp3 : pos = 0 ∨ pos = 1 ∨ pos = 2 := by omega
        rcases hp3 with rfl | rfl | rfl
        · have hnext : ∀ ty, (Instr.next (.pointer (some ⟨W1.heap.size, 0, none⟩)) true ty).run Tryz.prog wr = _ := fun ty => Lib.run_next_any_at wr W1.heap.size eE 0 ty HI.out (by decide)
          have hd : Utf8.decode eE 0 = (101, 1) := by decide
          simp only [hd] at hnext
          have HI1 := Lib.hid (Lib.iterAt_heap wr W1.heap.size eE 0 (0 + 1) HI.out)
          have HB1 : Hid (Below W1.heap.size W1 (wr.iterAt W1.heap.size eE (0 + 1))) := Lib.below_iterAt HB.out (Nat.le_refl _) eE _
          generalize wr.iterAt W1.heap.size eE (0 + 1) = W2 at hnext HI1 HB1
          clear HI HB hd
          cases hce : (c == 101)
          · have hn : c ≠ 101 := by simpa using hce
            have HN := Lib.hid hn
            clear hn
            go_wp2_with fail
            go_roundg 1
            case measure => omega
            case rel => exact ⟨1, rfl, ⟨fun _ => HN.out, by omega⟩, HI1.out, HB1.out⟩
          · have hy : c = 101 := by simpa using hce
            have HY := Lib.hid hy
            clear hy
            go_wp2_with fail
            go_ret
            exact ⟨⟨_, rfl, fun _ => HRET.out (.inl HY.out), fun _ => HP0.out⟩, HK1.out.trans (HB1.out.mono (Nat.le_of_lt HLT.out))⟩
        · have hnext : ∀ ty, (Instr.next (.pointer (some ⟨W1.heap.size, 0, none⟩)) true ty).run Tryz.prog wr = _ := fun ty => Lib.run_next_any_at wr W1.heap.size eE 1 ty HI.out (by decide)
          have hd : Utf8.decode eE 1 = (69, 1) := by decide
          simp only [hd] at hnext
          have HI1 := Lib.hid (Lib.iterAt_heap wr W1.heap.size eE 1 (1 + 1) HI.out)
          have HB1 : Hid (Below W1.heap.size W1 (wr.iterAt W1.heap.size eE (1 + 1))) := Lib.below_iterAt HB.out (Nat.le_refl _) eE _
          generalize wr.iterAt W1.heap.size eE (1 + 1) = W2 at hnext HI1 HB1
          clear HI HB hd
          cases hce : (c == 69)
          · have hn : c ≠ 69 := by simpa using hce
            have HN := Lib.hid hn
            clear hn
            go_wp2_with fail
            go_roundg 0
            case measure => omega
            case rel => exact ⟨2, rfl, ⟨fun _ => HC.out.1 (by omega), fun _ => HN.out⟩, HI1.out, HB1.out⟩
          · have hy : c = 69 := by simpa using hce
            have HY := Lib.hid hy
            clear hy
            go_wp2_with fail
            go_ret
            exact ⟨⟨_, rfl, fun _ => HRET.out (.inr HY.out), fun _ => HP0.out⟩, HK1.out.trans (HB1.out.mono (Nat.le_of_lt HLT.out))⟩
        · have hnext : ∀ ty, (Instr.next (.pointer (some ⟨W1.heap.size, 0, none⟩)) true ty).run Tryz.prog wr = _ := fun ty => Lib.run_next_end_at wr W1.heap.size eE 2 ty HI.out (by decide)
          go_wp2_with fail
          go_roundg t.length
          case measure => exact HK2.out
          case rel => exact HOUT.out _ HB.out (HC.out.1 (by omega)) (HC.out.2 (by omega))
set_option maxRecDepth 100000 in
theorem containsE (cs : List Int) (hv : AllV cs) (s : ByteArray) (h : s.data.toList = enc cs) (w : World) :
    Calls Tryz.prog 111 #[.string s, .string ⟨#[101, 69]⟩] w fun e w' => (∃ b : Bool, e = .returned (.bool b) ∧ (b = true ↔ HasE cs)) ∧ Below w.heap.size w w' := by
  have HH := Lib.hid h
  have HV := Lib.hid hv
  clear h hv
  go_enter Tryz.func111, Tryz.ntmps111
  go_wp2_with (go_at_call 137; go_must (refine (indexE cs HV.out s HH.out _).mono ?_; rintro e' w1 ⟨⟨r, rfl, hr⟩, hb⟩; have HR := Lib.hid hr; clear hr; have HB := Lib.hid hb; clear hb))
  go_ret
  exact ⟨⟨_, rfl, by rw [← HR.out]; simp⟩, HB.out⟩
end Go.Proofs.YtkfdcbdlcipmfaaGreatFmt
namespace Go.Proofs.YtkfdcbdlcipmfaaGreatFmt
open Go.RowKit Css
def RetPT (B g : Nat) (mini asc : Bool) (ts : List T) (bs : List UInt8) (w : World) (e : Ending) (w' : World) : Prop :=
  ∃ (has : Bool) (l : List Ch), e = .returned (.bool has) ∧ Prints asc ts (headBefore ts) l ∧ (enc (flat l)).length ≤ cost ts + 1 ∧ Put B g mini asc (bs ++ enc (flat l)) w w'
structure Pre (asc : Bool) (ts : List T) (i : Nat) (has : Bool) (pre : List Ch) : Prop where
  more : ∀ l, Prints asc (ts.drop i) has l → Prints asc ts (headBefore ts) (pre ++ l)
  size : (enc (flat pre)).length + cost (ts.drop i) ≤ cost ts
theorem Pre.zero (asc : Bool) (ts : List T) : Pre asc ts 0 (headBefore ts) [] := ⟨fun l h => h, by simp [enc]⟩
structure WsOk (has : Bool) (ws : List Ch) : Prop where
  yes : has = true → ∃ w, Blank w ∧ ws = [⟨none, w⟩]
  no : has = false → ws = []
  size : (enc (flat ws)).length ≤ 32
theorem Pre.plain {asc has : Bool} {ts : List T} {i : Nat} {pre ws : List Ch} {t : T} {out : List Int} (h : Pre asc ts i has pre) (hd : ts.drop i = t :: ts.drop (i + 1)) (hw : WsOk has ws) (ho : ¬ opens t.kind)
    (hout : Own asc (t.after || headBefore (ts.drop (i + 1))) t out) (hs : (enc out).length ≤ 16 * t.text.length + 8) :
    Pre asc ts (i + 1) (t.after || headBefore (ts.drop (i + 1))) (pre ++ (ws ++ [⟨some (tkOf t), out⟩])) := by
  refine ⟨fun l hl => ?_, ?_⟩
  · have h1 := Prints.plain t (ts.drop (i + 1)) has ws out l hw.yes hw.no ho hout hl
    rw [← hd] at h1
    have := h.more _ h1
    simpa using this
  · have h1 := h.size
    have h2 := hw.size
    rw [hd, cost_cons] at h1
    simp only [flat_append, flat_cons, flat_nil, List.append_nil, enc_append, List.length_append]
    omega
theorem Pre.opened {asc has : Bool} {ts : List T} {i : Nat} {pre ws kc : List Ch} {t : T} {out : List Int} (h : Pre asc ts i has pre) (hd : ts.drop i = t :: ts.drop (i + 1)) (hw : WsOk has ws) (ho : opens t.kind)
    (hout : Own asc (t.after || headBefore (ts.drop (i + 1))) t out) (hs : (enc out).length ≤ 16 * t.text.length + 8) (hk : Prints asc t.kids (headBefore t.kids) kc) (hks : (enc (flat kc)).length ≤ cost t.kids + 1) :
    Pre asc ts (i + 1) (t.after || headBefore (ts.drop (i + 1))) (pre ++ (ws ++ ⟨some (tkOf t), out⟩ :: (kc ++ [⟨some ⟨closeKind t.kind, 0, []⟩, [closer t.kind]⟩]))) := by
  refine ⟨fun l hl => ?_, ?_⟩
  · have h1 := Prints.opened t (ts.drop (i + 1)) has ws [] out kc l hw.yes hw.no ho hout (.inl rfl) hk hl
    rw [← hd] at h1
    have := h.more _ h1
    simpa using this
  · have h1 := h.size
    have h2 := hw.size
    have h3 := wd_pos (closer t.kind)
    rw [hd, cost_cons] at h1
    simp only [flat_append, flat_cons, flat_nil, List.append_nil, enc_append, List.length_append, enc_length_cons]
    have e : (enc ([] : List Int)).length = 0 := rfl
    omega
theorem Pre.done {asc : Bool} {ts : List T} {i : Nat} {pre : List Ch} (h : Pre asc ts i false pre) (hd : ts.drop i = []) : Prints asc ts (headBefore ts) pre ∧ (enc (flat pre)).length ≤ cost ts + 1 := by
  have h1 := h.more [] (by rw [hd]; exact .nil)
  rw [List.append_nil] at h1
  exact ⟨h1, by have := h.size; omega⟩
theorem Pre.doneSp {asc : Bool} {ts : List T} {i : Nat} {pre : List Ch} (h : Pre asc ts i true pre) (hd : ts.drop i = []) : Prints asc ts (headBefore ts) (pre ++ [⟨none, [32]⟩]) ∧ (enc (flat (pre ++ [⟨none, [32]⟩]))).length ≤ cost ts + 1 := by
  refine ⟨h.more _ (by rw [hd]; exact .last _ ⟨by simp, by simp⟩), ?_⟩
  have := h.size
  simp only [flat_append, flat_cons, flat_nil, List.append_nil, enc_append, List.length_append]
  have e : (enc ([32] : List Int)).length = 1 := rfl
  omega
theorem ke_blk {B g : Nat} {w w' : World} (h : Ke B g w w') {b : Nat} {cs : Array Value} {ty : TypeId} (hb : w.heap[b]? = some (.cells cs ty (0, 0))) (hT : ty ≠ 5) (hg : b ≠ g) : w'.heap[b]? = some (.cells cs ty (0, 0)) := by
  rw [h.block b (Array.getElem?_eq_some_iff.1 hb).1 hg (by rintro ⟨cs', fr, e⟩; rw [hb] at e; injection e with e; injection e with _ e _; exact hT e)]
  exact hb
theorem ok_kinds {asc : Bool} {t : T} (h : OK1 asc t) : (t.kind == 38) = false ∧ 0 ≤ t.kind ∧ t.kind < 256 ∧ (t.kind = 29 ∨ t.kind = 27 ∨ t.kind = 26 ∨ t.kind = 1 ∨ t.kind = 28 ∨ t.kind = 36 ∨
    ((t.kind == 29) = false ∧ (t.kind == 39) = false ∧ (t.kind == 27) = false ∧ (t.kind == 26) = false ∧ (t.kind == 1) = false ∧ (t.kind == 28) = false ∧ (t.kind == 36) = false ∧ (t.kind == 37) = false ∧ (t.kind == 2) = false)) := by
  simp only [beq_eq_false_iff_ne, ne_eq]
  cases h with
  | name h => omega
  | func h => omega
  | str h => omega
  | num h => omega
  | dim h => omega
  | sign h => unfold signLike at h; omega
theorem ok_good {asc : Bool} {t : T} (h : OK1 asc t) : Css.Good asc t.text := by
  cases h with
  | name _ _ h => exact h
  | func _ _ h => exact h
  | str _ h => exact h
  | num _ h => exact h
  | dim _ h => exact h
  | sign _ h => exact h
theorem ok_dim {asc : Bool} {t : T} (h : OK1 asc t) (hk : t.kind = 26) : 0 < t.unit ∧ t.unit < t.text.length ∧ ∀ c ∈ t.text.take t.unit, c < 128 := by
  cases h with
  | name h => omega
  | func h => omega
  | str h => omega
  | num h => omega
  | dim _ hg h1 h2 h3 => exact ⟨h1, h2, lone_ascii (good_ne (good_sub hg fun c hc => List.mem_of_mem_take hc)) h3 (.inl rfl)⟩
  | sign h => unfold signLike at h; omega
theorem good_v {asc : Bool} {cs : List Int} (h : Css.Good asc cs) : AllV cs := fun c hc => (h c hc).1
theorem good_l {asc : Bool} {cs : List Int} (h : Css.Good asc cs) : asc = true → ∀ c ∈ cs, c < 1048576 := fun ha c hc => (h c hc).2 ha
theorem unit_mode (cs : List Int) (b : Bool) (h : b = true ↔ HasE cs) : unitMode cs = if b then 3 else 2 := by
  unfold unitMode
  have : (101 ∈ cs ∨ 69 ∈ cs) ↔ HasE cs := by
    unfold HasE
    constructor
    · rintro (h | h)
      · exact ⟨_, h, .inl rfl⟩
      · exact ⟨_, h, .inr rfl⟩
    · rintro ⟨c, hc, rfl | rfl⟩
      · exact .inl hc
      · exact .inr hc
  cases b
  · rw [if_neg (fun hx => by have := h.2 (this.1 hx); simp at this)]; rfl
  · rw [if_pos (this.2 (h.1 rfl))]; rfl
theorem enc_ascii_take {cs : List Int} {u : Nat} (hv : AllV cs) (ha : ∀ c ∈ cs.take u, c < 128) (hu : u ≤ cs.length) : (enc cs).take u = enc (cs.take u) ∧ (enc cs).drop u = enc (cs.drop u) := by
  have e : enc cs = enc (cs.take u) ++ enc (cs.drop u) := by rw [← enc_append, List.take_append_drop]
  have hl : (enc (cs.take u)).length = u := by
    rw [enc_ascii_len (fun c hc => ha c hc), List.length_take]; omega
  rw [e]
  exact ⟨by rw [List.take_append_of_le_length (by omega), List.take_of_length_le (by omega)], by rw [List.drop_append_of_le_length (by omega), List.drop_of_length_le (by omega), List.nil_append]⟩
theorem cost_text {t : T} {ts : List T} (h : t ∈ ts) : 16 * t.text.length + 8192 + cost t.kids ≤ cost ts := by
  induction ts with
  | nil => simp at h
  | cons u us ih =>
    rw [cost_cons]
    rcases List.mem_cons.1 h with rfl | h
    · omega
    · have := ih h; omega
theorem okl_mem {asc : Bool} {ts : List T} (h : OKl asc ts) {t : T} (ht : t ∈ ts) : OK1 asc t ∧ OKl asc t.kids := by
  induction h with
  | nil => simp at ht
  | cons u us h1 h2 h3 _ _ ih3 =>
    rcases List.mem_cons.1 ht with rfl | ht
    · exact ⟨h1, h2⟩
    · exact ih3 ht
theorem Put.refl' {B g : Nat} {mini asc : Bool} {bs : List UInt8} {w : World} (h : St B g mini asc bs w) : Put B g mini asc bs w w := ⟨h, Ke.refl _ _ _⟩
end Go.Proofs.YtkfdcbdlcipmfaaGreatFmt
