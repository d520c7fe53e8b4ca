/- Walks: the printer: small functions around it. -/
import Derived.Test.YtkfdcbdlcipmfaaGreatFmtG07
import Derived.Test.YtkfdcbdlcipmfaaGreatFmtG12
import Derived.Test.YtkfdcbdlcipmfaaGreatFmtG10
import Derived.Test.YtkfdcbdlcipmfaaGreatFmtG06
set_option linter.unusedVariables false
set_option linter.unusedSimpArgs false
namespace Go.Proofs.YtkfdcbdlcipmfaaGreatFmt
open Go.RowKit Css
theorem below_set0 {B : Nat} {w : World} {b o : Nat} (hb : B ≤ b) (u : Value) : Below B w (w.setCell ⟨b, o, none⟩ u) :=
  ⟨rfl, rfl, rfl, by simp [World.setCell], fun i hi => Below.heap_setCell _ _ _ _ (by simp; omega)⟩
abbrev ctV (ptr : Value) (s : ByteArray) (lo pl u' k ws : Int) : Value := .agg #[ptr, .string s, .int .i32 lo, .int .u32 pl, .int .u16 u', .int .u8 k, .int .u8 ws]
def RetStr (s : ByteArray) (w : World) (e : Ending) (w' : World) : Prop := e = .returned (.string s) ∧ Below w.heap.size w w'
set_option maxRecDepth 100000 in
theorem dimValue_any (ptr : Value) (hp : ptr.oneCell' = true) (s : ByteArray) (lo pl k ws : Int) (u : Nat) (hu : u ≤ s.size) (hs : s.size ≤ 2147483647) (w : World) :
    Calls Tryz.prog 110 #[ctV ptr s lo pl u k ws] w (RetStr (s.extract 0 u) w) := by
  have HB := Lib.hid (box_below (.cells #[ptr, .string s, .int .i32 lo, .int .u32 pl, .int .u16 u, .int .u8 k, .int .u8 ws] 105) w)
  have h0 : (0 : Int) ≤ (u : Int) := by omega
  have h1 : (u : Int) ≤ (s.size : Int) := by omega
  have h2 : (s.size : Int) ≤ 2147483647 := by omega
  clear hu hs
  go_enter Tryz.func110, Tryz.ntmps110
  go_wp2_with fail
  go_ret
  exact ⟨rfl, HB.out⟩
set_option maxRecDepth 100000 in
theorem dimUnit_any (ptr : Value) (hp : ptr.oneCell' = true) (s : ByteArray) (lo pl k ws : Int) (u : Nat) (hu : u ≤ s.size) (hs : s.size ≤ 2147483647) (w : World) :
    Calls Tryz.prog 112 #[ctV ptr s lo pl u k ws] w (RetStr (s.extract u s.size) w) := by
  have HB := Lib.hid (box_below (.cells #[ptr, .string s, .int .i32 lo, .int .u32 pl, .int .u16 u, .int .u8 k, .int .u8 ws] 105) w)
  have h0 : (0 : Int) ≤ (u : Int) := by omega
  have h1 : (u : Int) ≤ (s.size : Int) := by omega
  have h2 : (s.size : Int) ≤ 2147483647 := by omega
  clear hu hs
  go_enter Tryz.func112, Tryz.ntmps112
  go_wp2_with fail
  go_ret
  exact ⟨rfl, HB.out⟩
theorem info106 : (Tryz.prog.info? 106).map (fun i => (i.zero, i.size, i.bytes)) = some (some (.slice none 0 0), 1, 24) := by kernel_rfl
def RetMap (w : World) (e : Ending) (w' : World) : Prop := ∃ A, e = .returned (.agg #[.slice (some A) 1 1]) ∧ Below w.heap.size w w'
set_option maxRecDepth 100000 in
theorem newMap_any (w : World) : Calls Tryz.prog 46 #[.int .i64 1] w (RetMap w) := by
  obtain ⟨i, hi, hz0, hz1, hz2⟩ := parts_of info106
  obtain ⟨w1, hr, _, hg⟩ := run_makeSlice_full (P := Tryz.prog) (w := w.alloc (.cells #[.slice none 0 0] 133)) 0 131 106 i (.slice none 0 0) 1 Tryz.underlying131 hi hz0 hz1 .i64 .i64 1 (by omega) (by rw [hz2]; omega) (by unfold maxLen; omega) (Nat.zero_le _)
  have hr' : (Instr.makeSlice 131 (.int .i64 1) (.int .i64 1)).run Tryz.prog (w.alloc (.cells #[.slice none 0 0] 133)) = .ok (.slice (some ⟨(w.alloc (.cells #[.slice none 0 0] 133)).heap.size, 0, none⟩) 1 1) w1 := hr
  generalize (w.alloc (.cells #[.slice none 0 0] 133)).heap.size = m at hr'
  have hb : Below w.heap.size w w1 := ((Below.refl _ _).alloc (Nat.le_refl _) _).grown hg (by simp) (by simp)
  have hw1 : w1.heap[w.heap.size]? = some (.cells #[.slice none 0 0] 133) := by
    rw [hg.block w.heap.size (by simp) (by simp)]; exact heap_alloc_new w _
  have c0 := cell_blk hw1 0
  have f0 := frozen_blk hw1 0
  have HB := Lib.hid (hb.trans (below_set0 (o := 0) (Nat.le_refl _) (.slice (some ⟨m, 0, none⟩) 1 1)))
  have r0 : (w1.setCell ⟨w.heap.size, 0, none⟩ (.slice (some ⟨m, 0, none⟩) 1 1)).cell? ⟨w.heap.size, 0, none⟩ = some (.slice (some ⟨m, 0, none⟩) 1 1) := World.cell?_setCell_same _ _ _ c0
  clear hr hg hb hw1 hi hz0 hz1 hz2
  go_enter Tryz.func46, Tryz.ntmps46
  go_wp2_with fail
  refine bodyPost_ret (v := .agg #[.slice (some ⟨m, 0, none⟩) 1 1]) (by simp [results, Tryz.results46, go_sem, r0]) rfl ?_
  exact ⟨_, rfl, HB.out⟩
end Go.Proofs.YtkfdcbdlcipmfaaGreatFmt
/- Walks: zzIndexAny, zzContainsAny over "eE". -/
namespace Go.Proofs.YtkfdcbdlcipmfaaGreatFmt
open Go.RowKit Css Go.Stop
open Go.Extern.Stop Go.Extern
variable {F : Go.Stop.Interp} {W0 w w' : World}
def eE : ByteArray := ⟨#[101, 69]⟩
def HasE (cs : List Int) : Prop := ∃ c ∈ cs, c = 101 ∨ c = 69
set_option maxHeartbeats 4000000 in
set_option maxRecDepth 100000 in
theorem indexE (cs : List Int) (hv : AllV cs) (s : ByteArray) (h : s.data.toList = enc cs) (w : World) :
    Calls Tryz.prog 137 #[.string s, .string eE] w fun e w' => (∃ r : Int, e = .returned (.int .i64 r) ∧ (0 ≤ r ↔ HasE cs)) ∧ Below w.heap.size w w' := by
  have HH := Lib.hid h
  have HV := Lib.hid hv
  have HIT0 : Hid ((w.iter s 0).heap[w.heap.size]? = some (.stringIter s 0)) := World.iter_heap w s 0
  have HK0 : Hid (Below w.heap.size w (w.iter s 0)) := (Below.refl _ _).alloc (Nat.le_refl _) _
  clear h hv
  rename World => w0
  go_enter Tryz.func137, Tryz.ntmps137
  go_wp2_with fail
  go_loopg [] cs.length (fun k wr => ∃ (A R : List Int), Hid (A ++ R = cs ∧ ¬ HasE A) ∧ R.length = k ∧ Hid (wr.heap[w0.heap.size]? = some (.stringIter s (enc A).length)) ∧ Hid (Below w0.heap.size w0 wr))
  case atStart => exact ⟨[], cs, ⟨rfl, by rintro ⟨c, hc, _⟩; simp at hc⟩, rfl, HIT0.out, HK0.out⟩
  case round =>
    obtain ⟨A, R, HA, hk, HIT, HK⟩ := hrel
    clear HIT0 HK0
    cases R with
    | nil =>
      have hend : (enc A).length = s.size := by
        have := HA.out.1
        rw [List.append_nil] at this
        rw [this, size_enc HH.out]
      have hnext : ∀ ty, (Instr.next (.pointer (some ⟨w0.heap.size, 0, none⟩)) true ty).run Tryz.prog wr = _ := fun ty => Lib.run_next_end_at wr w0.heap.size s _ ty HIT.out (by omega)
      clear hend
      go_wp2_with fail
      go_ret
      refine ⟨⟨_, rfl, ?_⟩, HK.out⟩
      have := HA.out
      rw [List.append_nil] at this
      rw [← this.1]
      exact ⟨fun h => absurd h (by decide), fun h => absurd h this.2⟩
    | cons c t =>
      have hvc : Valid c := HV.out c (by rw [← HA.out.1]; simp)
      have hs2 : s.data.toList = enc A ++ (enc1 c ++ enc t) := by rw [HH.out, ← HA.out.1, enc_append, enc_cons]
      have hsz : s.size = (enc A).length + (wd c + (enc t).length) := by rw [size_enc hs2, List.length_append, List.length_append, enc1_length]
      have hwd := wd_pos c
      have hdec := decode_enc hvc hs2
      have hnext : ∀ ty, (Instr.next (.pointer (some ⟨w0.heap.size, 0, none⟩)) true ty).run Tryz.prog wr = _ := fun ty => Lib.run_next_any_at wr w0.heap.size s _ ty HIT.out (by omega)
      simp only [hdec] at hnext
      have hcn : ((c.toNat : Nat) : Int) = c := by unfold Valid at hvc; omega
      rw [hcn] at hnext
      have HIT1 := Lib.hid (Lib.iterAt_heap wr w0.heap.size s (enc A).length ((enc A).length + wd c) HIT.out)
      have HK1 : Hid (Below w0.heap.size w0 (wr.iterAt w0.heap.size s ((enc A).length + wd c))) := Lib.below_iterAt HK.out (Nat.le_refl _) s _
      generalize wr.iterAt w0.heap.size s ((enc A).length + wd c) = W1 at hnext HIT1 HK1
      have hp0 : (0 : Int) ≤ ((enc A).length : Int) := by omega
      have HP0 := Lib.hid hp0
      have hk2 : t.length < gk := by simp at hk; omega
      have HK2 := Lib.hid hk2
      have hlt : w0.heap.size < W1.heap.size := (Array.getElem?_eq_some_iff.1 HIT1.out).1
      have HLT := Lib.hid hlt
      clear hs2 hdec hcn hsz hwd HIT HK hvc hk hk2 hlt hp0
      have HI0 : Hid ((W1.iter eE 0).heap[W1.heap.size]? = some (.stringIter eE 0)) := World.iter_heap W1 eE 0
      have HB0 : Hid (Below W1.heap.size W1 (W1.iter eE 0)) := (Below.refl _ _).alloc (Nat.le_refl _) _
      go_wp2_with fail
      go_loopg [] 2 (fun k wx => ∃ pos : Nat, pos + k = 2 ∧ Hid ((1 ≤ pos → c ≠ 101) ∧ (2 ≤ pos → c ≠ 69)) ∧ Hid (wx.heap[W1.heap.size]? = some (.stringIter eE pos)) ∧ Hid (Below W1.heap.size W1 wx))
      case atStart => exact ⟨0, rfl, ⟨by omega, by omega⟩, HI0.out, HB0.out⟩
      case round =>
        obtain ⟨pos, hpk, HC, HI, HB⟩ := hrel
        clear HI0 HB0 hnext
        have HOUT : Hid (∀ W, Below W1.heap.size W1 W → c ≠ 101 → c ≠ 69 → ∃ (A R : List Int), Hid (A ++ R = cs ∧ ¬ HasE A) ∧ R.length = t.length ∧ Hid (W.heap[w0.heap.size]? = some (.stringIter s (enc A).length)) ∧ Hid (Below w0.heap.size w0 W)) := fun W hW h1 h2 =>
          ⟨A ++ [c], t, ⟨by rw [← HA.out.1]; simp, by
            rintro ⟨x, hx, hx2⟩
            rw [List.mem_append, List.mem_singleton] at hx
            rcases hx with hx | rfl
            · exact HA.out.2 ⟨x, hx, hx2⟩
            · omega⟩, rfl, by
            show _ = _
            rw [enc_append, List.length_append, enc_cons, List.length_append, enc1_length]
            exact (hW.block _ HLT.out).trans HIT1.out, HK1.out.trans (hW.mono (Nat.le_of_lt HLT.out))⟩
        have HRET : Hid (c = 101 ∨ c = 69 → HasE cs) := fun h => ⟨c, by rw [← HA.out.1]; simp, h⟩
        have hp3 : pos = 0 ∨ pos = 1 ∨ pos = 2 := by omega
        rcases hp3 with rfl | rfl | rfl
        · have hnext : ∀ ty, (Instr.next (.pointer (some ⟨W1.heap.size, 0, none⟩)) true ty).run Tryz.prog wr = _ := fun ty => Lib.run_next_any_at wr W1.heap.size eE 0 ty HI.out (by decide)
          have hd : Utf8.decode eE 0 = (101, 1) := by decide
          simp only [hd] at hnext
          have HI1 := Lib.hid (Lib.iterAt_heap wr W1.heap.size eE 0 (0 + 1) HI.out)
          have HB1 : Hid (Below W1.heap.size W1 (wr.iterAt W1.heap.size eE (0 + 1))) := Lib.below_iterAt HB.out (Nat.le_refl _) eE _
          generalize wr.iterAt W1.heap.size eE (0 + 1) = W2 at hnext HI1 HB1
          clear HI HB hd
          cases hce : (c == 101)
          · have hn : c ≠ 101 := by simpa using hce
            have HN := Lib.hid hn
            clear hn
            go_wp2_with fail
            go_roundg 1
            case measure => omega
            case rel => exact ⟨1, rfl, ⟨fun _ => HN.out, by omega⟩, HI1.out, HB1.out⟩
          · have hy : c = 101 := by simpa using hce
            have HY := Lib.hid hy
            clear hy
            go_wp2_with fail
            go_ret
            exact ⟨⟨_, rfl, fun _ => HRET.out (.inl HY.out), fun _ => HP0.out⟩, HK1.out.trans (HB1.out.mono (Nat.le_of_lt HLT.out))⟩
        · have hnext : ∀ ty, (Instr.next (.pointer (some ⟨W1.heap.size, 0, none⟩)) true ty).run Tryz.prog wr = _ := fun ty => Lib.run_next_any_at wr W1.heap.size eE 1 ty HI.out (by decide)
          have hd : Utf8.decode eE 1 = (69, 1) := by decide
          simp only [hd] at hnext
          have HI1 := Lib.hid (Lib.iterAt_heap wr W1.heap.size eE 1 (1 + 1) HI.out)
          have HB1 : Hid (Below W1.heap.size W1 (wr.iterAt W1.heap.size eE (1 + 1))) := Lib.below_iterAt HB.out (Nat.le_refl _) eE _
          generalize wr.iterAt W1.heap.size eE (1 + 1) = W2 at hnext HI1 HB1
          clear HI HB hd
          cases hce : (c == 69)
          · have hn : c ≠ 69 := by simpa using hce
            have HN := Lib.hid hn
            clear hn
            go_wp2_with fail
            go_roundg 0
            case measure => omega
            case rel => exact ⟨2, rfl, ⟨fun _ => HC.out.1 (by omega), fun _ => HN.out⟩, HI1.out, HB1.out⟩
          · have hy : c = 69 := by simpa using hce
            have HY := Lib.hid hy
            clear hy
            go_wp2_with fail
            go_ret
            exact ⟨⟨_, rfl, fun _ => HRET.out (.inr HY.out), fun _ => HP0.out⟩, HK1.out.trans (HB1.out.mono (Nat.le_of_lt HLT.out))⟩
        · have hnext : ∀ ty, (Instr.next (.pointer (some ⟨W1.heap.size, 0, none⟩)) true ty).run Tryz.prog wr = _ := fun ty => Lib.run_next_end_at wr W1.heap.size eE 2 ty HI.out (by decide)
          go_wp2_with fail
          go_roundg t.length
          case measure => exact HK2.out
          case rel => exact HOUT.out _ HB.out (HC.out.1 (by omega)) (HC.out.2 (by omega))
set_option maxRecDepth 100000 in
theorem containsE (cs : List Int) (hv : AllV cs) (s : ByteArray) (h : s.data.toList = enc cs) (w : World) :
    Calls Tryz.prog 111 #[.string s, .string ⟨#[101, 69]⟩] w fun e w' => (∃ b : Bool, e = .returned (.bool b) ∧ (b = true ↔ HasE cs)) ∧ Below w.heap.size w w' := by
  have HH := Lib.hid h
  have HV := Lib.hid hv
  clear h hv
  go_enter Tryz.func111, Tryz.ntmps111
  go_wp2_with (go_at_call 137; go_must (refine (indexE cs HV.out s HH.out _).mono ?_; rintro e' w1 ⟨⟨r, rfl, hr⟩, hb⟩; have HR := Lib.hid hr; clear hr; have HB := Lib.hid hb; clear hb))
  go_ret
  exact ⟨⟨_, rfl, by rw [← HR.out]; simp⟩, HB.out⟩
end Go.Proofs.YtkfdcbdlcipmfaaGreatFmt
/- Words for the walks: printing tokens. -/
namespace Go.Proofs.YtkfdcbdlcipmfaaGreatFmt
open Go.RowKit Css
/-- What printing a list of tokens returns and does. -/
def RetPT (B g : Nat) (mini asc : Bool) (ts : List T) (bs : List UInt8) (w : World) (e : Ending) (w' : World) : Prop :=
  ∃ (has : Bool) (l : List Ch), e = .returned (.bool has) ∧ Prints asc ts (headBefore ts) l ∧ (enc (flat l)).length ≤ cost ts + 1 ∧ Put B g mini asc (bs ++ enc (flat l)) w w'
/-- What has been printed of a list, so far. -/
structure Pre (asc : Bool) (ts : List T) (i : Nat) (has : Bool) (pre : List Ch) : Prop where
  more : ∀ l, Prints asc (ts.drop i) has l → Prints asc ts (headBefore ts) (pre ++ l)
  size : (enc (flat pre)).length + cost (ts.drop i) ≤ cost ts
theorem Pre.zero (asc : Bool) (ts : List T) : Pre asc ts 0 (headBefore ts) [] := ⟨fun l h => h, by simp [enc]⟩
/-- Whitespace ahead of a token. -/
structure WsOk (has : Bool) (ws : List Ch) : Prop where
  yes : has = true → ∃ w, Blank w ∧ ws = [⟨none, w⟩]
  no : has = false → ws = []
  size : (enc (flat ws)).length ≤ 32
theorem Pre.plain {asc has : Bool} {ts : List T} {i : Nat} {pre ws : List Ch} {t : T} {out : List Int} (h : Pre asc ts i has pre) (hd : ts.drop i = t :: ts.drop (i + 1)) (hw : WsOk has ws) (ho : ¬ opens t.kind)
    (hout : Own asc (t.after || headBefore (ts.drop (i + 1))) t out) (hs : (enc out).length ≤ 16 * t.text.length + 8) :
    Pre asc ts (i + 1) (t.after || headBefore (ts.drop (i + 1))) (pre ++ (ws ++ [⟨some (tkOf t), out⟩])) := by
  refine ⟨fun l hl => ?_, ?_⟩
  · have h1 := Prints.plain t (ts.drop (i + 1)) has ws out l hw.yes hw.no ho hout hl
    rw [← hd] at h1
    have := h.more _ h1
    simpa using this
  · have h1 := h.size
    have h2 := hw.size
    rw [hd, cost_cons] at h1
    simp only [flat_append, flat_cons, flat_nil, List.append_nil, enc_append, List.length_append]
    omega
theorem Pre.opened {asc has : Bool} {ts : List T} {i : Nat} {pre ws kc : List Ch} {t : T} {out : List Int} (h : Pre asc ts i has pre) (hd : ts.drop i = t :: ts.drop (i + 1)) (hw : WsOk has ws) (ho : opens t.kind)
    (hout : Own asc (t.after || headBefore (ts.drop (i + 1))) t out) (hs : (enc out).length ≤ 16 * t.text.length + 8) (hk : Prints asc t.kids (headBefore t.kids) kc) (hks : (enc (flat kc)).length ≤ cost t.kids + 1) :
    Pre asc ts (i + 1) (t.after || headBefore (ts.drop (i + 1))) (pre ++ (ws ++ ⟨some (tkOf t), out⟩ :: (kc ++ [⟨some ⟨closeKind t.kind, 0, []⟩, [closer t.kind]⟩]))) := by
  refine ⟨fun l hl => ?_, ?_⟩
  · have h1 := Prints.opened t (ts.drop (i + 1)) has ws [] out kc l hw.yes hw.no ho hout (.inl rfl) hk hl
    rw [← hd] at h1
    have := h.more _ h1
    simpa using this
  · have h1 := h.size
    have h2 := hw.size
    have h3 := wd_pos (closer t.kind)
    rw [hd, cost_cons] at h1
    simp only [flat_append, flat_cons, flat_nil, List.append_nil, enc_append, List.length_append, enc_length_cons]
    have e : (enc ([] : List Int)).length = 0 := rfl
    omega
theorem Pre.done {asc : Bool} {ts : List T} {i : Nat} {pre : List Ch} (h : Pre asc ts i false pre) (hd : ts.drop i = []) : Prints asc ts (headBefore ts) pre ∧ (enc (flat pre)).length ≤ cost ts + 1 := by
  have h1 := h.more [] (by rw [hd]; exact .nil)
  rw [List.append_nil] at h1
  exact ⟨h1, by have := h.size; omega⟩
theorem Pre.doneSp {asc : Bool} {ts : List T} {i : Nat} {pre : List Ch} (h : Pre asc ts i true pre) (hd : ts.drop i = []) : Prints asc ts (headBefore ts) (pre ++ [⟨none, [32]⟩]) ∧ (enc (flat (pre ++ [⟨none, [32]⟩]))).length ≤ cost ts + 1 := by
  refine ⟨h.more _ (by rw [hd]; exact .last _ ⟨by simp, by simp⟩), ?_⟩
  have := h.size
  simp only [flat_append, flat_cons, flat_nil, List.append_nil, enc_append, List.length_append]
  have e : (enc ([32] : List Int)).length = 1 := rfl
  omega
theorem ke_blk {B g : Nat} {w w' : World} (h : Ke B g w w') {b : Nat} {cs : Array Value} {ty : TypeId} (hb : w.heap[b]? = some (.cells cs ty (0, 0))) (hT : ty ≠ 5) (hg : b ≠ g) : w'.heap[b]? = some (.cells cs ty (0, 0)) := by
  rw [h.block b (Array.getElem?_eq_some_iff.1 hb).1 hg (by rintro ⟨cs', fr, e⟩; rw [hb] at e; injection e with e; injection e with _ e _; exact hT e)]
  exact hb
/-- A token's kind. -/
theorem ok_kinds {asc : Bool} {t : T} (h : OK1 asc t) : (t.kind == 38) = false ∧ 0 ≤ t.kind ∧ t.kind < 256 ∧ (t.kind = 29 ∨ t.kind = 27 ∨ t.kind = 26 ∨ t.kind = 1 ∨ t.kind = 28 ∨ t.kind = 36 ∨
    ((t.kind == 29) = false ∧ (t.kind == 39) = false ∧ (t.kind == 27) = false ∧ (t.kind == 26) = false ∧ (t.kind == 1) = false ∧ (t.kind == 28) = false ∧ (t.kind == 36) = false ∧ (t.kind == 37) = false ∧ (t.kind == 2) = false)) := by
  simp only [beq_eq_false_iff_ne, ne_eq]
  cases h with
  | name h => omega
  | func h => omega
  | str h => omega
  | num h => omega
  | dim h => omega
  | sign h => unfold signLike at h; omega
theorem ok_good {asc : Bool} {t : T} (h : OK1 asc t) : Css.Good asc t.text := by
  cases h with
  | name _ _ h => exact h
  | func _ _ h => exact h
  | str _ h => exact h
  | num _ h => exact h
  | dim _ h => exact h
  | sign _ h => exact h
theorem ok_dim {asc : Bool} {t : T} (h : OK1 asc t) (hk : t.kind = 26) : 0 < t.unit ∧ t.unit < t.text.length ∧ ∀ c ∈ t.text.take t.unit, c < 128 := by
  cases h with
  | name h => omega
  | func h => omega
  | str h => omega
  | num h => omega
  | dim _ hg h1 h2 h3 => exact ⟨h1, h2, lone_ascii (good_ne (good_sub hg fun c hc => List.mem_of_mem_take hc)) h3 (.inl rfl)⟩
  | sign h => unfold signLike at h; omega
theorem good_v {asc : Bool} {cs : List Int} (h : Css.Good asc cs) : AllV cs := fun c hc => (h c hc).1
theorem good_l {asc : Bool} {cs : List Int} (h : Css.Good asc cs) : asc = true → ∀ c ∈ cs, c < 1048576 := fun ha c hc => (h c hc).2 ha
theorem unit_mode (cs : List Int) (b : Bool) (h : b = true ↔ HasE cs) : unitMode cs = if b then 3 else 2 := by
  unfold unitMode
  have : (101 ∈ cs ∨ 69 ∈ cs) ↔ HasE cs := by
    unfold HasE
    constructor
    · rintro (h | h)
      · exact ⟨_, h, .inl rfl⟩
      · exact ⟨_, h, .inr rfl⟩
    · rintro ⟨c, hc, rfl | rfl⟩
      · exact .inl hc
      · exact .inr hc
  cases b
  · rw [if_neg (fun hx => by have := h.2 (this.1 hx); simp at this)]; rfl
  · rw [if_pos (this.2 (h.1 rfl))]; rfl
theorem enc_ascii_take {cs : List Int} {u : Nat} (hv : AllV cs) (ha : ∀ c ∈ cs.take u, c < 128) (hu : u ≤ cs.length) : (enc cs).take u = enc (cs.take u) ∧ (enc cs).drop u = enc (cs.drop u) := by
  have e : enc cs = enc (cs.take u) ++ enc (cs.drop u) := by rw [← enc_append, List.take_append_drop]
  have hl : (enc (cs.take u)).length = u := by
    rw [enc_ascii_len (fun c hc => ha c hc), List.length_take]; omega
  rw [e]
  exact ⟨by rw [List.take_append_of_le_length (by omega), List.take_of_length_le (by omega)], by rw [List.drop_append_of_le_length (by omega), List.drop_of_length_le (by omega), List.nil_append]⟩
theorem cost_text {t : T} {ts : List T} (h : t ∈ ts) : 16 * t.text.length + 8192 + cost t.kids ≤ cost ts := by
  induction ts with
  | nil => simp at h
  | cons u us ih =>
    rw [cost_cons]
    rcases List.mem_cons.1 h with rfl | h
    · omega
    · have := ih h; omega
theorem okl_mem {asc : Bool} {ts : List T} (h : OKl asc ts) {t : T} (ht : t ∈ ts) : OK1 asc t ∧ OKl asc t.kids := by
  induction h with
  | nil => simp at ht
  | cons u us h1 h2 h3 _ _ ih3 =>
    rcases List.mem_cons.1 ht with rfl | ht
    · exact ⟨h1, h2⟩
    · exact ih3 ht
theorem Put.refl' {B g : Nat} {mini asc : Bool} {bs : List UInt8} {w : World} (h : St B g mini asc bs w) : Put B g mini asc bs w w := ⟨h, Ke.refl _ _ _⟩
theorem wsV_after (b a : Bool) : wsV b a = (if b then 1 else 0) + (if a then 2 else 0) := rfl
end Go.Proofs.YtkfdcbdlcipmfaaGreatFmt
/- Walks: the quotes that are chosen. -/
namespace Go.Proofs.YtkfdcbdlcipmfaaGreatFmt
open Go.RowKit Css Go.Stop
open Go.Extern.Stop Go.Extern
variable {F : Go.Stop.Interp} {W0 w w' : World}
set_option maxHeartbeats 4000000 in
set_option maxRecDepth 100000 in
theorem bestQuote_any (cs : List Int) (hv : AllV cs) (s : ByteArray) (h : s.data.toList = enc cs) (w : World) :
    Calls Tryz.prog 104 #[.string s, .bool false] w fun e w' => (∃ q : Int, (q = 34 ∨ q = 39) ∧ e = .returned (.int .u8 q)) ∧ Below w.heap.size w w' := by
  have HH := Lib.hid h
  have HV := Lib.hid hv
  have HIT0 : Hid ((w.iter s 0).heap[w.heap.size]? = some (.stringIter s 0)) := World.iter_heap w s 0
  have HK0 : Hid (Below w.heap.size w (w.iter s 0)) := (Below.refl _ _).alloc (Nat.le_refl _) _
  clear h hv
  go_enter Tryz.func104, Tryz.ntmps104
  go_wp2_with fail
  go_loopg [5, 6, 7] cs.length (fun k p5 p6 p7 wr => ∃ (A R : List Int) (x5 x6 x7 : Int), p5 = .int .i64 x5 ∧ p6 = .int .i64 x6 ∧ p7 = .int .i64 x7 ∧ Hid (A ++ R = cs) ∧ R.length = k ∧ Hid (wr.heap[w.heap.size]? = some (.stringIter s (enc A).length)) ∧ Hid (Below w.heap.size w wr))
  case atStart => exact ⟨[], cs, 0, 2, 2, rfl, rfl, rfl, rfl, rfl, HIT0.out, HK0.out⟩
  case round =>
    obtain ⟨A, R, x5, x6, x7, rfl, rfl, rfl, HA, hk, HIT, HK⟩ := hrel
    clear HIT0 HK0
    cases R with
    | nil =>
      have hend : (enc A).length = s.size := by
        have := HA.out
        rw [List.append_nil] at this
        rw [this, size_enc HH.out]
      have hnext : ∀ ty, (Instr.next (.pointer (some ⟨w.heap.size, 0, none⟩)) true ty).run Tryz.prog wr = _ := fun ty => Lib.run_next_end_at wr w.heap.size s _ ty HIT.out (by omega)
      clear hend
      go_wp2_with fail
      all_goals
        go_ret
        exact ⟨⟨_, by omega, rfl⟩, HK.out⟩
    | cons c t =>
      have hvc : Valid c := HV.out c (by rw [← HA.out]; simp)
      have hs2 : s.data.toList = enc A ++ (enc1 c ++ enc t) := by rw [HH.out, ← HA.out, enc_append, enc_cons]
      have hsz : s.size = (enc A).length + (wd c + (enc t).length) := by rw [size_enc hs2, List.length_append, List.length_append, enc1_length]
      have hwd := wd_pos c
      have hdec := decode_enc hvc hs2
      have hnext : ∀ ty, (Instr.next (.pointer (some ⟨w.heap.size, 0, none⟩)) true ty).run Tryz.prog wr = _ := fun ty => Lib.run_next_any_at wr w.heap.size s _ ty HIT.out (by omega)
      simp only [hdec] at hnext
      have hcn : ((c.toNat : Nat) : Int) = c := by unfold Valid at hvc; omega
      rw [hcn] at hnext
      have HIT1 := Lib.hid (Lib.iterAt_heap wr w.heap.size s (enc A).length ((enc A).length + wd c) HIT.out)
      have HK1 : Hid (Below w.heap.size w (wr.iterAt w.heap.size s ((enc A).length + wd c))) := Lib.below_iterAt HK.out (Nat.le_refl _) s _
      generalize wr.iterAt w.heap.size s ((enc A).length + wd c) = W1 at hnext HIT1 HK1
      have HREL : Hid (∀ y5 y6 y7 : Int, ∃ (A R : List Int) (x5 x6 x7 : Int), Value.int .i64 y5 = .int .i64 x5 ∧ Value.int .i64 y6 = .int .i64 x6 ∧ Value.int .i64 y7 = .int .i64 x7 ∧ Hid (A ++ R = cs) ∧ R.length = t.length ∧ Hid (W1.heap[w.heap.size]? = some (.stringIter s (enc A).length)) ∧ Hid (Below w.heap.size w W1)) :=
        fun y5 y6 y7 => ⟨A ++ [c], t, y5, y6, y7, rfl, rfl, rfl, by show _ = _; rw [← HA.out]; simp, rfl, by
          have := HIT1.out
          show _ = _
          rw [enc_append, List.length_append, enc_cons, List.length_append, enc1_length]; exact this, HK1.out⟩
      have hk2 : t.length < gk := by simp at hk; omega
      clear hs2 hdec hcn hsz hwd HIT HK HIT1 HK1 hvc hk
      go_wp2_with fail
      all_goals
        go_roundg t.length
        case measure => exact hk2
        case rel => exact HREL.out _ _ _
end Go.Proofs.YtkfdcbdlcipmfaaGreatFmt
/- Walks: unicode.SimpleFold where it is asked; strings.EqualFold against the word style. -/
namespace Go.Proofs.YtkfdcbdlcipmfaaGreatFmt
open Go.RowKit Css Go.Stop
open Go.Extern.Stop Go.Extern
variable {F : Go.Stop.Interp} {W0 w w' : World}
set_option maxHeartbeats 1000000 in
set_option maxRecDepth 100000 in
theorem sf_asc (r v : Nat) (hr0 : 65 ≤ (r : Int)) (hr1 : (r : Int) < 128) (hv0 : (v : Int) ≤ 65535) (w : World) (hc : w.cell? ⟨3, r, none⟩ = some (.int .u16 (v : Int))) :
    Calls Tryz.prog 132 #[.int .i32 r] w fun e w' => e = .returned (.int .i32 v) ∧ w = w' := by
  have hv00 : 0 ≤ (v : Int) := by omega
  go_enter Tryz.func132, Tryz.ntmps132
  go_wp2_with fail
  go_ret
  exact ⟨rfl, rfl⟩
set_option maxHeartbeats 4000000 in
set_option maxRecDepth 100000 in
theorem sf_383 (w : World) (hF : Fold w) : Calls Tryz.prog 132 #[.int .i32 383] w fun e w' => e = .returned (.int .i32 83) ∧ w = w' := by
  obtain ⟨R, oR, cap, hg, hm, hto⟩ := hF.orb
  have h47 := hm (47, 966) (by simp)
  have h23 := hm (23, 837) (by simp)
  have h11 := hm (11, 452) (by simp)
  have h5 := hm (5, 197) (by simp)
  have h8 := hm (8, 304) (by simp)
  have h10 := hm (10, 383) (by simp)
  have h9 := hm (9, 305) (by simp)
  simp only [Nat.reduceMul] at h47 h23 h11 h5 h8 h10 h9 hto
  clear hm hF
  go_enter Tryz.func132, Tryz.ntmps132
  go_wp2_with fail
  go_loopg [3, 4] 7 (fun k p3 p4 wr => wr = w ∧ ((k = 7 ∧ p3 = .int .i64 0 ∧ p4 = .int .i64 94) ∨ (k = 6 ∧ p3 = .int .i64 0 ∧ p4 = .int .i64 47) ∨ (k = 5 ∧ p3 = .int .i64 0 ∧ p4 = .int .i64 23) ∨ (k = 4 ∧ p3 = .int .i64 0 ∧ p4 = .int .i64 11) ∨ (k = 3 ∧ p3 = .int .i64 6 ∧ p4 = .int .i64 11) ∨ (k = 2 ∧ p3 = .int .i64 9 ∧ p4 = .int .i64 11) ∨ (k = 1 ∧ p3 = .int .i64 9 ∧ p4 = .int .i64 10) ∨ (k = 0 ∧ p3 = .int .i64 10 ∧ p4 = .int .i64 10)))
  case atStart => exact ⟨rfl, by simp⟩
  case round =>
    obtain ⟨rfl, hr⟩ := hrel
    rcases hr with hr | hr | hr | hr | hr | hr | hr | hr
    · obtain ⟨rfl, rfl, rfl⟩ := hr
      have hm := h47
      clear h47 h23 h11 h5 h8 h10 h9 hto
      go_wp2_with fail
      go_roundg 6
      case measure => omega
      case rel => exact ⟨rfl, by simp⟩
    · obtain ⟨rfl, rfl, rfl⟩ := hr
      have hm := h23
      clear h47 h23 h11 h5 h8 h10 h9 hto
      go_wp2_with fail
      go_roundg 5
      case measure => omega
      case rel => exact ⟨rfl, by simp⟩
    · obtain ⟨rfl, rfl, rfl⟩ := hr
      have hm := h11
      clear h47 h23 h11 h5 h8 h10 h9 hto
      go_wp2_with fail
      go_roundg 4
      case measure => omega
      case rel => exact ⟨rfl, by simp⟩
    · obtain ⟨rfl, rfl, rfl⟩ := hr
      have hm := h5
      clear h47 h23 h11 h5 h8 h10 h9 hto
      go_wp2_with fail
      go_roundg 3
      case measure => omega
      case rel => exact ⟨rfl, by simp⟩
    · obtain ⟨rfl, rfl, rfl⟩ := hr
      have hm := h8
      clear h47 h23 h11 h5 h8 h10 h9 hto
      go_wp2_with fail
      go_roundg 2
      case measure => omega
      case rel => exact ⟨rfl, by simp⟩
    · obtain ⟨rfl, rfl, rfl⟩ := hr
      have hm := h10
      clear h47 h23 h11 h5 h8 h10 h9 hto
      go_wp2_with fail
      go_roundg 1
      case measure => omega
      case rel => exact ⟨rfl, by simp⟩
    · obtain ⟨rfl, rfl, rfl⟩ := hr
      have hm := h9
      clear h47 h23 h11 h5 h8 h10 h9 hto
      go_wp2_with fail
      go_roundg 0
      case measure => omega
      case rel => exact ⟨rfl, by simp⟩
    · obtain ⟨rfl, rfl, rfl⟩ := hr
      have hm := h10
      clear h47 h23 h11 h5 h8 h10 h9
      go_wp2_with fail
      go_ret
      exact ⟨rfl, rfl⟩
end Go.Proofs.YtkfdcbdlcipmfaaGreatFmt
/- Walks: strings.EqualFold against the word style: it ends. -/
namespace Go.Proofs.YtkfdcbdlcipmfaaGreatFmt
open Go.RowKit Css Go.Stop
open Go.Extern.Stop Go.Extern
variable {F : Go.Stop.Interp} {W0 w w' : World}
theorem wp_scope_to {P : Program} {a : Act} {w : World} {Q : Exit → Act → World → Prop} {c rest : Code} (l : Nat) (hf : findLabel c l = some rest) (first : c.wp P (Exit.jump l (fun a w => rest.wp P (Exit.noGoto Q) a w) Q) a w) : (Code.scope c).wp P Q a w := by
  refine wp_scope_jumps l (fun a w => rest.wp P (Exit.noGoto Q) a w) (fun _ _ => 0) hf first fun a w h => wp_mono h ?_
  intro e a w hq
  cases e with
  | goto l' => exact hq.elim
  | normal => exact hq
  | exit id => exact hq
  | ret => exact hq
  | panic ch => exact hq
  | outgrown => exact hq
theorem wp_beta {P : Program} {c : Code} {Q : Exit → Act → World → Prop} {a : Act} {w : World} (h : c.wp P Q a w) : (fun a w => c.wp P Q a w) a w := h

def styleT : ByteArray := ⟨#[115, 116, 121, 108, 101]⟩
def styleC : List Int := [115, 116, 121, 108, 101]
def sfN (x : Int) : Int := if x = 115 then 383 else if x = 383 then 83 else if x = 83 then 115 else if x = 116 then 84 else if x = 84 then 116 else if x = 121 then 89 else if x = 89 then 121 else if x = 108 then 76 else if x = 76 then 108 else if x = 101 then 69 else 101
def SfD (x : Int) : Prop := x = 115 ∨ x = 383 ∨ x = 83 ∨ x = 116 ∨ x = 84 ∨ x = 121 ∨ x = 89 ∨ x = 108 ∨ x = 76 ∨ x = 101 ∨ x = 69
theorem sf_any (x : Int) (hx : SfD x) (w : World) (hF : Fold w) : Calls Tryz.prog 132 #[.int .i32 x] w fun e w' => e = .returned (.int .i32 (sfN x)) ∧ w = w' := by
  rcases hx with rfl | rfl | rfl | rfl | rfl | rfl | rfl | rfl | rfl | rfl | rfl
  · exact sf_asc 115 383 (by omega) (by omega) (by omega) w (hF.asc (115, 383) (by simp))
  · exact sf_383 w hF
  · exact sf_asc 83 115 (by omega) (by omega) (by omega) w (hF.asc (83, 115) (by simp))
  · exact sf_asc 116 84 (by omega) (by omega) (by omega) w (hF.asc (116, 84) (by simp))
  · exact sf_asc 84 116 (by omega) (by omega) (by omega) w (hF.asc (84, 116) (by simp))
  · exact sf_asc 121 89 (by omega) (by omega) (by omega) w (hF.asc (121, 89) (by simp))
  · exact sf_asc 89 121 (by omega) (by omega) (by omega) w (hF.asc (89, 121) (by simp))
  · exact sf_asc 108 76 (by omega) (by omega) (by omega) w (hF.asc (108, 76) (by simp))
  · exact sf_asc 76 108 (by omega) (by omega) (by omega) w (hF.asc (76, 108) (by simp))
  · exact sf_asc 101 69 (by omega) (by omega) (by omega) w (hF.asc (101, 69) (by simp))
  · exact sf_asc 69 101 (by omega) (by omega) (by omega) w (hF.asc (69, 101) (by simp))
def Orb (c x : Int) (k : Nat) : Prop :=
  (c = 115 ∧ ((x = 383 ∧ k = 2) ∨ (x = 83 ∧ k = 1) ∨ (x = 115 ∧ k = 0))) ∨ (c = 116 ∧ ((x = 84 ∧ k = 1) ∨ (x = 116 ∧ k = 0))) ∨ (c = 121 ∧ ((x = 89 ∧ k = 1) ∨ (x = 121 ∧ k = 0))) ∨ (c = 108 ∧ ((x = 76 ∧ k = 1) ∨ (x = 108 ∧ k = 0))) ∨ (c = 101 ∧ ((x = 69 ∧ k = 1) ∨ (x = 101 ∧ k = 0)))
theorem orb_step {c x : Int} {k : Nat} (h : Orb c x k) (hx : x ≠ c) : SfD x ∧ ∃ k', k' < k ∧ Orb c (sfN x) k' := by
  unfold Orb at h
  rcases h with ⟨rfl, h⟩ | ⟨rfl, h⟩ | ⟨rfl, h⟩ | ⟨rfl, h⟩ | ⟨rfl, h⟩
  · rcases h with ⟨rfl, rfl⟩ | ⟨rfl, rfl⟩ | ⟨rfl, rfl⟩
    · exact ⟨by unfold SfD; omega, 1, by omega, by unfold Orb sfN; simp⟩
    · exact ⟨by unfold SfD; omega, 0, by omega, by unfold Orb sfN; simp⟩
    · exact absurd rfl hx
  all_goals
    rcases h with ⟨rfl, rfl⟩ | ⟨rfl, rfl⟩
    · exact ⟨by unfold SfD; omega, 0, by omega, by unfold Orb sfN; simp⟩
    · exact absurd rfl hx
theorem orb_start {c : Int} (h : c ∈ styleC) : SfD c ∧ 97 ≤ c ∧ c ≤ 122 ∧ ∃ k, Orb c (sfN c) k := by
  simp only [styleC, List.mem_cons, List.not_mem_nil, or_false] at h
  rcases h with rfl | rfl | rfl | rfl | rfl
  · exact ⟨by unfold SfD; omega, by omega, by omega, 2, by unfold Orb sfN; simp⟩
  all_goals exact ⟨by unfold SfD; omega, by omega, by omega, 1, by unfold Orb sfN; simp⟩
theorem style_drop (i : Nat) : (styleT.extract i styleT.size).data.toList = enc (styleC.drop i) := by
  rw [Lib.extract_to_end]
  have e : styleT.data.toList = enc styleC := by decide
  have key : ∀ (l : List Int) (i : Nat), (∀ c ∈ l, wd c = 1) → (enc l).drop i = enc (l.drop i) := by
    intro l
    induction l with
    | nil => intro i _; simp [enc]
    | cons c t ih =>
      intro i h
      cases i with
      | zero => simp
      | succ i =>
        have h1 : (enc1 c).length = 1 := by rw [enc1_length]; exact h c (by simp)
        rw [enc_cons, List.drop_append, h1, List.drop_eq_nil_of_le (by omega), List.nil_append, Nat.add_sub_cancel, ih i (fun x hx => h x (by simp [hx]))]
        rfl
  rw [e, key styleC i (by decide)]
set_option maxHeartbeats 8000000 in
set_option maxRecDepth 100000 in
theorem fold_any (s : ByteArray) (hs : s.size = 5) (w : World) (hE : Env F W0 w) :
    Calls Tryz.prog 102 #[.string s, .string styleT] w fun e w' => (∃ b : Bool, e = .returned (.bool b)) ∧ Below w.heap.size w w' := by
  have HS := Lib.hid hs
  have hss : (s.size : Int) = 5 := by omega
  have hst : (styleT.size : Int) = 5 := by decide
  have HE := Lib.hid hE
  clear hs hE
  go_enter Tryz.func102, Tryz.ntmps102
  go_wp2_with fail
  refine wp_scope_to 0 rfl ?_
  go_wp2_with fail
  go_loopg [5] 5 (fun k p wr => wr = w ∧ ∃ i : Nat, i + k = 5 ∧ p = .int .i64 i)
  case atStart => exact ⟨rfl, 0, rfl, rfl⟩
  case round =>
    obtain ⟨rfl, i, hik, rfl⟩ := hrel
    by_cases hi : (i : Int) < 5
    · have hi0 : 0 ≤ (i : Int) := by omega
      have hx := bt_get s i
      have hxt := bt_get styleT i
      have hr := bt_range s i
      have hrt := bt_range styleT i
      generalize bt s i = b at hx hr
      generalize bt styleT i = d at hxt hrt
      go_upto_if 33 with fail
      generalize decide (128 ≤ bits BinOp.or IntKind.u8 b d) = B
      cases B
      · go_wp2_with fail
        all_goals first
          | (go_roundg (4 - i)
             case measure => omega
             case rel => exact ⟨rfl, i + 1, by omega, by first | rfl | (congr 1; omega)⟩)
          | (simp only [Exit.jump_ret]
             go_ret
             exact ⟨⟨_, rfl⟩, Below.refl _ _⟩)
          | (go_ret
             exact ⟨⟨_, rfl⟩, Below.refl _ _⟩)
          | trace_state
      · go_wp2_with fail
        refine wp_goto (And.intro rfl (wp_beta ?_))
        go_wp2_with fail
        have hT0 := style_drop i
        generalize s.extract i s.size = S
        generalize styleT.extract i styleT.size = T0 at hT0 ⊢
        have HT0 : Hid (T0.data.toList = enc (styleC.drop i) ∧ ∀ c ∈ styleC.drop i, c ∈ styleC) := ⟨hT0, fun c hc => List.mem_of_mem_drop hc⟩
        generalize styleC.drop i = R0 at HT0
        clear hT0
        rename World => w0
        have HIT0 : Hid ((w0.iter S 0).heap[w0.heap.size]? = some (.stringIter S 0)) := World.iter_heap w0 S 0
        have HK0 : Hid (Below w0.heap.size w0 (w0.iter S 0)) := (Below.refl _ _).alloc (Nat.le_refl _) _
        clear hr hrt hi0 hi hss hst hik
        go_loopg [1] R0.length (fun k p wx => ∃ (T : ByteArray) (R : List Int) (pos : Nat), p = .string T ∧ Hid (T.data.toList = enc R ∧ (∀ c ∈ R, c ∈ styleC)) ∧ R.length = k ∧ Hid (wx.heap[w0.heap.size]? = some (.stringIter S pos)) ∧ Hid (Below w0.heap.size w0 wx))
        case atStart => exact ⟨T0, R0, 0, rfl, HT0, rfl, HIT0, HK0⟩
        case round =>
          obtain ⟨T, R, pos, rfl, HT, hk, HIT, HK⟩ := hrel
          clear HT0 HIT0 HK0
          by_cases hpos : pos < S.size
          · have hnext : ∀ ty, (Instr.next (.pointer (some ⟨w0.heap.size, 0, none⟩)) true ty).run Tryz.prog wr = _ := fun ty => Lib.run_next_any_at wr w0.heap.size S pos ty HIT.out hpos
            have hdle := decode_le S pos
            have HIT1 := Lib.hid (Lib.iterAt_heap wr w0.heap.size S pos (pos + (Utf8.decode S pos).2) HIT.out)
            have HK1 : Hid (Below w0.heap.size w0 (wr.iterAt w0.heap.size S (pos + (Utf8.decode S pos).2))) := Lib.below_iterAt HK.out (Nat.le_refl _) S _
            generalize wr.iterAt w0.heap.size S (pos + (Utf8.decode S pos).2) = W1 at hnext HIT1 HK1
            generalize pos + (Utf8.decode S pos).2 = pos1 at HIT1
            generalize (Utf8.decode S pos).1 = rn at hnext hdle
            obtain ⟨r, hr⟩ : ∃ r : Int, ((rn : Nat) : Int) = r := ⟨_, rfl⟩
            have hr0 : 0 ≤ r := by omega
            have hr1 : r ≤ 2147483647 := by omega
            rw [hr] at hnext
            clear hr hdle hpos HIT HK
            cases R with
            | nil =>
              have hT0 : (T.size : Int) = 0 := by have : T.size = 0 := size_enc HT.out.1; omega
              go_wp2_with fail
              (try rw [Exit.noGoto_ret])
              go_ret
              exact ⟨⟨_, rfl⟩, HK1.out⟩
            | cons c R' =>
              have hcm := HT.out.2 c (by simp)
              obtain ⟨hSD, hc97, hc122, k0, hO0⟩ := orb_start hcm
              have HSD := Lib.hid hSD
              have HO0 := Lib.hid hO0
              have hw1 : wd c = 1 := by unfold wd; rw [if_pos (by omega)]
              have HW1 := Lib.hid hw1
              have hts := size_enc HT.out.1
              rw [enc_length_cons, hw1] at hts
              have hT1 : (1 : Int) ≤ (T.size : Int) := by omega
              have HVC : Hid (Valid c) := by show Valid c; unfold Valid; omega
              have HX : Hid ((T.extract 1 T.size).data.toList = enc R' ∧ ∀ c ∈ R', c ∈ styleC) := ⟨extract_enc (A := enc1 c) (R := enc R') (by rw [HT.out.1, enc_cons]) 1 (by rw [enc1_length]; exact hw1.symm), fun x hx => HT.out.2 x (by simp [hx])⟩
              have HTB := Lib.hid (HE.out.below HK1.out).tabs
              have hk2 : R'.length < gk := by simp at hk; omega
              have HK2' := Lib.hid hk2
              clear hSD hO0 hw1 hts hcm hk hk2
              go_upto_region 23 with (go_at_call 100; go_must (refine (dec_cons T c R' HVC.out HT.out.1 _ HTB.out).mono ?_; rintro e' W2 ⟨rfl, hb2⟩; have HB2 := Lib.hid hb2; clear hb2; rw [HW1.out]))
              have HK2 : Hid (Below w0.heap.size w0 W2) := HK1.out.trans (HB2.out.mono HK1.out.size)
              have HIT2 : Hid (W2.heap[w0.heap.size]? = some (.stringIter S pos1)) := (HB2.out.block _ (Array.getElem?_eq_some_iff.1 HIT1.out).1).trans HIT1.out
              have HFO := Lib.hid (HE.out.below HK2.out).fold
              clear HIT1 HK1 HB2 hnext
              have HREL : Hid (∃ (T' : ByteArray) (R : List Int) (pos : Nat), Value.string (T.extract 1 T.size) = .string T' ∧ Hid (T'.data.toList = enc R ∧ (∀ c ∈ R, c ∈ styleC)) ∧ R.length = R'.length ∧ Hid (W2.heap[w0.heap.size]? = some (.stringIter S pos)) ∧ Hid (Below w0.heap.size w0 W2)) := ⟨_, R', pos1, rfl, HX, rfl, HIT2, HK2⟩
              cases heq : (c == r)
              · by_cases hlt : c < r
                · by_cases h128 : r < 128
                  · go_wp2_with fail
                    all_goals first
                      | (go_roundg R'.length
                         case measure => exact HK2'.out
                         case rel => exact HREL.out)
                      | ((try rw [Exit.noGoto_ret])
                         go_ret
                         exact ⟨⟨_, rfl⟩, HK2.out⟩)
                  · go_wp2_with (go_at_call 132; go_must (refine (sf_any c HSD.out _ HFO.out).mono ?_; rintro e' W3 ⟨rfl, rfl⟩))
                    have hcr : ¬ r = c := by omega
                    clear heq
                    go_loopg [13] k0 (fun k p wx => wx = W2 ∧ ∃ x : Int, p = .int .i32 x ∧ Hid (Orb c x k))
                    case atStart => exact ⟨rfl, _, rfl, HO0⟩
                    case round =>
                      obtain ⟨rfl, x, rfl, HO⟩ := hrel
                      by_cases hxc : x = c
                      · subst hxc
                        go_wp2_with fail
                        all_goals first
                          | (go_roundg R'.length
                             case measure => exact HK2'.out
                             case rel => exact HREL.out)
                          | ((try rw [Exit.noGoto_ret])
                             go_ret
                             exact ⟨⟨_, rfl⟩, HK2.out⟩)
                          | trace_state
                      · have hst := orb_step HO.out hxc
                        have HST := Lib.hid hst
                        clear hst
                        have hxb : (x != c) = true := by simp [hxc]
                        clear hxc
                        by_cases hxr : x < r
                        · go_wp2_with (go_at_call 132; go_must (refine (sf_any x HST.out.1 _ HFO.out).mono ?_; rintro e' W3 ⟨rfl, rfl⟩))
                          obtain ⟨k', hk', hO'⟩ := HST.out.2
                          go_roundg k'
                          case measure => exact hk'
                          case rel => exact ⟨rfl, _, rfl, hO'⟩
                        · go_wp2_with fail
                          all_goals first
                            | (go_roundg R'.length
                               case measure => exact HK2'.out
                               case rel => exact HREL.out)
                            | ((try rw [Exit.noGoto_ret])
                               go_ret
                               exact ⟨⟨_, rfl⟩, HK2.out⟩)
                            | trace_state
                · go_wp2_with fail
                  all_goals first
                    | (go_roundg R'.length
                       case measure => exact HK2'.out
                       case rel => exact HREL.out)
                    | ((try rw [Exit.noGoto_ret])
                       go_ret
                       exact ⟨⟨_, rfl⟩, HK2.out⟩)
                    | trace_state
              · go_wp2_with fail
                go_roundg R'.length
                case measure => exact HK2'.out
                case rel => exact HREL.out
          · have hnext : ∀ ty, (Instr.next (.pointer (some ⟨w0.heap.size, 0, none⟩)) true ty).run Tryz.prog wr = _ := fun ty => Lib.run_next_end_at wr w0.heap.size S pos ty HIT.out hpos
            go_wp2_with fail
            (try rw [Exit.noGoto_ret])
            go_ret
            exact ⟨⟨_, rfl⟩, HK.out⟩
    · have hi5 : (i : Int) = 5 := by omega
      go_wp2_with fail
      all_goals
        go_ret
        exact ⟨⟨_, rfl⟩, Below.refl _ _⟩
end Go.Proofs.YtkfdcbdlcipmfaaGreatFmt
/- Walks: words for texts in quotes. -/
namespace Go.Proofs.YtkfdcbdlcipmfaaGreatFmt
open Go.RowKit Css Go.Stop
open Go.Extern.Stop Go.Extern
variable {F : Go.Stop.Interp} {W0 w w' : World}
theorem fold_lit (s : ByteArray) (hs : s.size = 5) (w : World) (hE : Env F W0 w) :
    Calls Tryz.prog 102 #[.string s, .string ⟨#[115, 116, 121, 108, 101]⟩] w fun e w' => (∃ b : Bool, e = .returned (.bool b)) ∧ Below w.heap.size w w' := fold_any s hs w hE
set_option maxRecDepth 100000 in
theorem has_style (w : World) : Calls Tryz.prog 101 #[.int .u16 0, .int .u16 64] w fun e w' => e = .returned (.bool false) ∧ w = w' := by
  go_enter Tryz.func101, Tryz.ntmps101
  go_wp2
  go_ret
  exact ⟨rfl, rfl⟩

/-- How a code point of a text in quotes may be printed. -/
def QOk (asc : Bool) (q : Int) (E : Nat) (c : Int) : Prop :=
  (E = 0 ∧ c ≠ q ∧ c ≠ 92 ∧ ¬ isNl c ∧ (asc = true → c < 128) ∧ c ≠ 65279) ∨ (E = 1 ∧ (c = q ∨ c = 92 ∨ c = 47)) ∨ (E = 2 ∧ (isNl c ∨ c = 65279 ∨ (asc = true ∧ 128 ≤ c)))
theorem qok_out {asc : Bool} {q : Int} {E : Nat} {c : Int} {t out : List Int} (hq : q = 34 ∨ q = 39) (h : QOk asc q E c) (hc : asc = true → c < 1048576) (ho : StrOut q asc t out) : StrOut q asc (c :: t) (escOut E c t false ++ out) := by
  rcases h with ⟨rfl, h1, h2, h3, h4, h5⟩ | ⟨rfl, h1⟩ | ⟨rfl, h1⟩
  · exact StrOut.plain c t out ho h1 h2 h3 h4 h5
  · have : ¬ isHex c := by unfold isHex; omega
    unfold escOut
    rw [if_neg (by decide), if_pos ⟨rfl, this⟩]
    exact StrOut.slash c t out ho h1
  · have hlt : c < 1048576 := by
      rcases h1 with h | h | ⟨h, _⟩
      · unfold isNl at h; omega
      · omega
      · exact hc h
    have := hexs_small hlt
    unfold escOut
    rw [if_neg (by decide), if_neg (by rintro ⟨h, _⟩; omega)]
    have e : decide ((hexs c).length < 6) = true := by simp; omega
    rw [e, Bool.true_and, List.cons_append, List.append_assoc]
    exact StrOut.hex c t out ho h1
theorem qok_len {asc : Bool} {q : Int} {E : Nat} {c : Int} {t : List Int} (hv : Valid c) : (enc (escOut E c t false)).length ≤ 16 := by
  have hl : (hexs c).length ≤ 6 := hexsN_len 5 c.toNat (by unfold Valid at hv; omega)
  have he := enc_hex_len (hexs c) (hexsN_hex _)
  have hw := wd_pos c
  unfold escOut
  split
  · rw [enc_length_cons]; simp [enc]; omega
  · split
    · rw [enc_length_cons, enc_length_cons]; have := wd_pos 92; simp [enc]; omega
    · rw [enc_length_cons, enc_append, List.length_append, he]
      have := wd_pos 92
      split
      · rw [enc_length_cons]; have := wd_pos 32; simp [enc]; omega
      · simp [enc]; omega
section
variable {ops : Array Oper} {o : Oper} {a : Act} {K : Act → World → Prop} {Q : Exit → Act → World → Prop} {E : Prop}
theorem step_puts (hgd : o.guard = none) (s x : Operand) (ho : o.op = .call { callee := .builtin .append, args := #[s, x], argTypes := #[117, 9] })
    {B g : Nat} {mini asc : Bool} {bs : List UInt8} {v : Value} {w : World} (H : At B g mini asc bs v w) (t : ByteArray)
    (hs : a.eval s = v) (hx : a.eval x = .string t) (n : Nat) (hn : n = bs.length + t.size) (hl : bs.length + t.size ≤ 140737488355328)
    (h : ∀ A cap w', PR B g mini asc v w' → At B g mini asc (bs ++ t.data.toList) (.slice A n cap) (w'.setCell ⟨g, 15, none⟩ (.slice A n cap)) → Ke B g w (w'.setCell ⟨g, 15, none⟩ (.slice A n cap)) → K (a.put o.dst (.slice A n cap)) w') :
    if Region.wanted o (yielded ops a.tmps) = true then Oper.wp Tryz.prog o a w.drew K Q else E := by
  have hw : Region.wanted o (yielded ops a.tmps) = true := by simp [Region.wanted, hgd]
  rw [if_pos hw]
  subst hn
  obtain ⟨i5, hi, hz0, hz1, hz2⟩ := info_parts5
  have H1 := H.drew
  obtain ⟨v', w', hr, h2, h3, h4⟩ := Lib.run_append_own_string (P := Tryz.prog) w.drew B 117 9 o.type 5 i5 Tryz.underlying117 Tryz.underlying9 hi hz0 hz1 hz2 v bs.length (bv bs) H1.own t (by unfold maxLen; omega) hl H1.base
  have hgo : K (a.put o.dst v') w' := by
    obtain ⟨A, c, rfl⟩ := own_slice h2
    have h2' : w'.ownsRow B 5 1 (.slice A (bs.length + t.size) c) (bs.length + t.size) (bv bs ++ bv t.data.toList) := by simpa [bv, Lib.strCells] using h2
    have hlen : bs.length + t.size = bs.length + t.data.toList.length := rfl
    have := at_of_store H1 h3 h2' hlen
    exact h A c w' (H1.pr.grown H1.own h3) this.1 (Ke.of_drew this.2)
  unfold Oper.wp execOp
  simp only [ho, resolve, invoke, builtin, Sem.run_bind, Sem.run_pure, Result.andThen_ok, List.map_toArray, List.map_cons, List.map_nil, hs, hx, hr]
  exact hgo
end
theorem seg_more {L A X R : List UInt8} (h : L = A ++ (X ++ R)) {rs : Nat} (hr : rs ≤ A.length) : (L.take (A.length + X.length)).drop rs = (L.take A.length).drop rs ++ X := by
  subst h
  have e1 : (A ++ (X ++ R)).take (A.length + X.length) = A ++ X := by
    rw [← List.append_assoc, List.take_append_of_le_length (by simp), List.take_of_length_le (by simp)]
  rw [e1, List.take_left, List.drop_append_of_le_length hr]
theorem extract_list (s : ByteArray) (a b : Nat) : (s.extract a b).data.toList = (s.data.toList.take b).drop a := by
  have : (s.extract a b).data = s.data.extract a b := by simp
  rw [this, Array.toList_extract]
  simp [List.extract, List.drop_take]
end Go.Proofs.YtkfdcbdlcipmfaaGreatFmt
