/- Walks: functionMultiLineCommaPeriod: some number. -/
import Derived.Test.YtkfdcbdlcipmfaaGreatFmtH14
import Derived.Test.YtkfdcbdlcipmfaaGreatFmtH04
import Derived.Test.YtkfdcbdlcipmfaaGreatFmtH03
import Derived.Test.YtkfdcbdlcipmfaaGreatFmtH10
import Derived.Deep.RegionHeld3
set_option linter.unusedVariables false
set_option linter.unusedSimpArgs false
namespace Go.Proofs.YtkfdcbdlcipmfaaGreatFmt
open Go.RowKit Css
variable {F : Go.Stop.Interp} {W0 : World}
abbrev tkA (px : Option Addr) (s : ByteArray) (u' k ws : Int) : Array Value := #[.pointer px, .string s, .int .i32 0, .int .u32 0, .int .u16 u', .int .u8 k, .int .u8 ws]
def RetPer (w : World) (e : Ending) (w' : World) : Prop := ∃ p : Nat, p ≤ 255 ∧ e = .returned (.int .u8 (p : Int)) ∧ Below w.heap.size w w'
theorem RetPer.mk' {p : Nat} {w w' : World} {x : Int} (hx : x = (p : Int)) (h : p ≤ 255) (hb : Below w.heap.size w w') : RetPer w (.returned (.int .u8 x)) w' := ⟨p, h, by rw [hx], hb⟩
set_option maxHeartbeats 3200000 in
set_option maxRecDepth 100000 in
theorem period_no (px : Option Addr) (s : ByteArray) (u' k ws : Int) (hk : (k == 27) = false) (w : World) : Calls Tryz.prog 109 #[.agg (tkA px s u' k ws)] w (RetPer w) := by
  have HB := Lib.hid (box_below (.cells (tkA px s u' k ws) 105) w)
  go_enter Tryz.func109, Tryz.ntmps109
  go_wp2_with fail
  go_ret
  exact RetPer.mk' (p := 0) rfl (by decide) HB.out
set_option maxHeartbeats 3200000 in
set_option maxRecDepth 100000 in
theorem period_func (p : Nat) (s : ByteArray) (hs : s.size ≤ 2147483647) (u' ws : Int) (v : Value) (kids : List T) (hl : kids.length ≤ 16384) (S : Nat → Prop) (w : World) (hE : Env F W0 w) (hp : w.cell? ⟨p, 0, none⟩ = some v) (hS : ∀ b, S b → b < w.heap.size) (ht : TksAt w S v kids) :
    Calls Tryz.prog 109 #[.agg (tkA (some ⟨p, 0, none⟩) s u' 27 ws)] w (RetPer w) := by
  have HB := Lib.hid (box_below (.cells (tkA (some ⟨p, 0, none⟩) s u' 27 ws) 105) w)
  have hbox : (w.alloc (.cells (tkA (some ⟨p, 0, none⟩) s u' 27 ws) 105)).heap[w.heap.size]? = some (.cells (tkA (some ⟨p, 0, none⟩) s u' 27 ws) 105 (0, 0)) := heap_alloc_new w _
  have hc := below_cell HB.out hp
  obtain ⟨A, c, hv, hA⟩ := ht
  subst hv
  have HA := Lib.hid hA
  have HE := Lib.hid hE
  have HSS := Lib.hid hS
  have HS : Hid (s.size < 35184372088832) := by show _ < _; omega
  clear hE hA hS hp hs
  go_enter Tryz.func109, Tryz.ntmps109
  go_upto_region 1 with fail
  change Code.wp _ _ _ _ (w.alloc (.cells (tkA (some ⟨p, 0, none⟩) s u' 27 ws) 105))
  generalize hW : w.alloc (.cells (tkA (some ⟨p, 0, none⟩) s u' 27 ws) 105) = W at HB hbox hc ⊢
  have HBOX := Lib.hid hbox
  have e0 := cell_blk hbox 0
  have e1 := cell_blk hbox 1
  have e5 := cell_blk hbox 5
  generalize hn : w.heap.size = n0 at HBOX e0 e1 e5 ⊢
  clear hbox hW
  go_upto_region 4 with fail
  go_loopg [3, 5, 14] kids.length (fun k p3 p5 p14 wr => ∃ (i cnt : Nat), p14 = .int .i64 i ∧ i + k = kids.length ∧ p3 = .int .i64 cnt ∧ cnt ≤ i ∧ Hid (Below W.heap.size W wr))
  case atStart => exact ⟨0, 0, rfl, by omega, rfl, by omega, Below.refl _ _⟩
  case round =>
    obtain ⟨i, cnt, rfl, hik, rfl, hcnt, HR⟩ := hrel
    have hi0 : (0 : Int) ≤ (i : Int) := by omega
    have hi1 : (i : Int) ≤ 16384 := by omega
    have hn0 : (0 : Int) ≤ (cnt : Int) := by omega
    have hn1 : (cnt : Int) ≤ 16384 := by omega
    by_cases hlt : i < kids.length
    · have hlti : (i : Int) < (kids.length : Int) := by omega
      obtain ⟨q, rfl, hq, hin⟩ := HA.out (by intro e; subst e; simp at hlt)
      obtain ⟨t, hti⟩ : ∃ t, kids[i]? = some t := ⟨kids[i], List.getElem?_eq_getElem hlt⟩
      obtain ⟨ptr, u2, htk⟩ := hin.get hti
      obtain ⟨px, rfl⟩ : ∃ px, ptr = .pointer px := by
        by_cases ho : opens t.kind
        · obtain ⟨p2, _, e, _⟩ := htk.kids ho; exact ⟨_, e⟩
        · exact ⟨_, htk.leaf ho⟩
      have hqw : q < w.heap.size := HSS.out q hq
      have hcc : ∀ j x, (ctCells (.pointer px) t.text u2 t.kind t.before t.after)[j]? = some x → wr.cell? ⟨q, i * 7 + j, none⟩ = some x := fun j x hx => below_cell HR.out (below_cell HB.out (htk.cells j x hx))
      have a0 : wr.cell? ⟨q, i * 7, none⟩ = some (.pointer px) := hcc 0 _ rfl
      have a1 : wr.cell? ⟨q, i * 7 + 1, none⟩ = some (.string ⟨⟨enc t.text⟩⟩) := hcc 1 _ rfl
      have a2 : wr.cell? ⟨q, i * 7 + 2, none⟩ = some (.int .i32 0) := hcc 2 _ rfl
      have a3 : wr.cell? ⟨q, i * 7 + 3, none⟩ = some (.int .u32 0) := hcc 3 _ rfl
      have a4 : wr.cell? ⟨q, i * 7 + 4, none⟩ = some (.int .u16 u2) := hcc 4 _ rfl
      have a5 : wr.cell? ⟨q, i * 7 + 5, none⟩ = some (.int .u8 t.kind) := hcc 5 _ rfl
      have a6 : wr.cell? ⟨q, i * 7 + 6, none⟩ = some (.int .u8 (wsV t.before t.after)) := hcc 6 _ rfl
      have HBX := Lib.hid (below_then HR.out (box_below (.cells #[.pointer px, .string ⟨⟨enc t.text⟩⟩, .int .i32 0, .int .u32 0, .int .u16 u2, .int .u8 t.kind, .int .u8 (wsV t.before t.after)] 105) wr))
      clear hcc htk hin hti
      cases hk : (t.kind == 10)
      · go_wp2_with fail
        go_roundg (kids.length - (i + 1))
        case measure => omega
        case rel => exact ⟨i + 1, cnt, by go_num, by omega, rfl, by omega, HBX.out⟩
      · go_wp2_with fail
        go_roundg (kids.length - (i + 1))
        case measure => omega
        case rel => exact ⟨i + 1, cnt + 1, by go_num, by omega, by go_num, by omega, HBX.out⟩
    · have hle : (kids.length : Int) ≤ (i : Int) := by omega
      have HEW := Lib.hid ((HE.out.below HB.out).below HR.out)
      have r1 := below_cell HR.out e1
      go_wp2_with (go_at_call 136; go_must (refine (Tryz.strings_ToLower_any s _ HS.out HEW.out.case_ HEW.out.tabs).mono ?_; rintro e w2 ⟨rfl, hb⟩; have HB2 := Lib.hid (below_then HB.out (below_then HR.out hb)); clear hb))
      all_goals
        go_ret
        first
          | exact RetPer.mk' (p := 0) rfl (by decide) HB2.out
          | exact RetPer.mk' (p := 1) rfl (by decide) HB2.out
          | exact RetPer.mk' (p := 2) rfl (by decide) HB2.out
          | exact RetPer.mk' (p := 4) rfl (by decide) HB2.out
end Go.Proofs.YtkfdcbdlcipmfaaGreatFmt
namespace Go.Proofs.YtkfdcbdlcipmfaaGreatFmt
open Go.RowKit Css Go.Stop
open Go.Extern.Stop Go.Extern
variable {F : Go.Stop.Interp} {W0 w w' : World}
set_option maxHeartbeats 4000000 in
set_option maxRecDepth 100000 in
theorem bestQuote_any (cs : List Int) (hv : AllV cs) (s : ByteArray) (h : s.data.toList = enc cs) (w : World) :
    Calls Tryz.prog 104 #[.string s, .bool false] w fun e w' => (∃ q : Int, (q = 34 ∨ q = 39) ∧ e = .returned (.int .u8 q)) ∧ Below w.heap.size w w' := by
  have HH := Lib.hid h
  have HV := Lib.hid hv
  have HIT0 : Hid ((w.iter s 0).heap[w.heap.size]? = some (.stringIter s 0)) := World.iter_heap w s 0
  have HK0 : Hid (Below w.heap.size w (w.iter s 0)) := (Below.refl _ _).alloc (Nat.le_refl _) _
  clear h hv
  go_enter Tryz.func104, Tryz.ntmps104
  go_wp2_with fail
  go_loopg [5, 6, 7] cs.length (fun k p5 p6 p7 wr => ∃ (A R : List Int) (x5 x6 x7 : Int), p5 = .int .i64 x5 ∧ p6 = .int .i64 x6 ∧ p7 = .int .i64 x7 ∧ Hid (A ++ R = cs) ∧ R.length = k ∧ Hid (wr.heap[w.heap.size]? = some (.stringIter s (enc A).length)) ∧ Hid (Below w.heap.size w wr))
  case atStart => exact ⟨[], cs, 0, 2, 2, rfl, rfl, rfl, rfl, rfl, HIT0.out, HK0.out⟩
  case round =>
    obtain ⟨A, R, x5, x6, x7, rfl, rfl, rfl, HA, hk, HIT, HK⟩ := hrel
    clear HIT0 HK0
    cases R with
    | nil =>
      have hend : (enc A).length = s.size := by
        have := HA.out
        rw [List.append_nil] at this
        rw [this, size_enc HH.out]
      have hnext : ∀ ty, (Instr.next (.pointer (some ⟨w.heap.size, 0, none⟩)) true ty).run Tryz.prog wr = _ := fun ty => Lib.run_next_end_at wr w.heap.size s _ ty HIT.out (by omega)
      clear hend
      go_wp2_with fail
      all_goals
        go_ret
        exact ⟨⟨_, by omega, rfl⟩, HK.out⟩
    | cons c t =>
      have hvc : Valid c := HV.out c (by rw [← HA.out]; simp)
      have hs2 : s.data.toList = enc A ++ (enc1 c ++ enc t) := by rw [HH.out, ← HA.out, enc_append, enc_cons]
      have hsz : s.size = (enc A).length + (wd c + (enc t).length) := by rw [size_enc hs2, List.length_append, List.length_append, enc1_length]
      have hwd := wd_pos c
      have hdec := decode_enc hvc hs2
      have hnext : ∀ ty, (Instr.next (.pointer (some ⟨w.heap.size, 0, none⟩)) true ty).run Tryz.prog wr = _ := fun ty => Lib.run_next_any_at wr w.heap.size s _ ty HIT.out (by omega)
      simp only [hdec] at hnext
      have hcn : ((c.toNat : Nat) : Int) = c := by unfold Valid at hvc; omega
      rw [hcn] at hnext
      have HIT1 := Lib.hid (Lib.iterAt_heap wr w.heap.size s (enc A).length ((enc A).length + wd c) HIT.out)
      have HK1 : Hid (Below w.heap.size w (wr.iterAt w.heap.size s ((enc A).length + wd c))) := Lib.below_iterAt HK.out (Nat.le_refl _) s _
      generalize wr.iterAt w.heap.size s ((enc A).length + wd c) = W1 at hnext HIT1 HK1
      have HREL : Hid (∀ y5 y6 y7 : Int, ∃ (A R : List Int) (x5 x6 x7 : Int), Value.int .i64 y5 = .int .i64 x5 ∧ Value.int .i64 y6 = .int .i64 x6 ∧ Value.int .i64 y7 = .int .i64 x7 ∧ Hid (A ++ R = cs) ∧ R.length = t.length ∧ Hid (W1.heap[w.heap.size]? = some (.stringIter s (enc A).length)) ∧ Hid (Below w.heap.size w W1)) :=
        fun y5 y6 y7 => ⟨A ++ [c], t, y5, y6, y7, rfl, rfl, rfl, by show _ = _; rw [← HA.out]; simp, rfl, by
          have := HIT1.out
          show _ = _
          rw [enc_append, List.length_append, enc_cons, List.length_append, enc1_length]; exact this, HK1.out⟩
      have hk2 : t.length < gk := by simp at hk; omega
      clear hs2 hdec hcn hsz hwd HIT HK HIT1 HK1 hvc hk
      go_wp2_with fail
      all_goals
        go_roundg t.length
        case measure => exact hk2
        case rel => exact HREL.out _ _ _
end Go.Proofs.YtkfdcbdlcipmfaaGreatFmt
namespace Go.Proofs.YtkfdcbdlcipmfaaGreatFmt
open Go.RowKit Css Go.Stop
open Go.Extern.Stop Go.Extern
variable {F : Go.Stop.Interp} {W0 w w' : World}
set_option maxHeartbeats 1000000 in
set_option maxRecDepth 100000 in
theorem sf_asc (r v : Nat) (hr0 : 65 ≤ (r : Int)) (hr1 : (r : Int) < 128) (hv0 : (v : Int) ≤ 65535) (w : World) (hc : w.cell? ⟨3, r, none⟩ = some (.int .u16 (v : Int))) :
    Calls Tryz.prog 132 #[.int .i32 r] w fun e w' => e = .returned (.int .i32 v) ∧ w = w' := by
  have hv00 : 0 ≤ (v : Int) := by omega
  go_enter Tryz.func132, Tryz.ntmps132
  go_wp2_with fail
  go_ret
  exact ⟨rfl, rfl⟩
set_option maxHeartbeats 4000000 in
set_option maxRecDepth 100000 in
theorem sf_383 (w : World) (hF : Fold w) : Calls Tryz.prog 132 #[.int .i32 383] w fun e w' => e = .returned (.int .i32 83) ∧ w = w' := by
  obtain ⟨R, oR, cap, hg, hm, hto⟩ := hF.orb
  have h47 := hm (47, 966) (by simp)
  have h23 := hm (23, 837) (by simp)
  have h11 := hm (11, 452) (by simp)
  have h5 := hm (5, 197) (by simp)
  have h8 := hm (8, 304) (by simp)
  have h10 := hm (10, 383) (by simp)
  have h9 := hm (9, 305) (by simp)
  simp only [Nat.reduceMul] at h47 h23 h11 h5 h8 h10 h9 hto
  clear hm hF
  go_enter Tryz.func132, Tryz.ntmps132
  go_wp2_with fail
  go_loopg [3, 4] 7 (fun k p3 p4 wr => wr = w ∧ ((k = 7 ∧ p3 = .int .i64 0 ∧ p4 = .int .i64 94) ∨ (k = 6 ∧ p3 = .int .i64 0 ∧ p4 = .int .i64 47) ∨ (k = 5 ∧ p3 = .int .i64 0 ∧ p4 = .int .i64 23) ∨ (k = 4 ∧ p3 = .int .i64 0 ∧ p4 = .int .i64 11) ∨ (k = 3 ∧ p3 = .int .i64 6 ∧ p4 = .int .i64 11) ∨ (k = 2 ∧ p3 = .int .i64 9 ∧ p4 = .int .i64 11) ∨ (k = 1 ∧ p3 = .int .i64 9 ∧ p4 = .int .i64 10) ∨ (k = 0 ∧ p3 = .int .i64 10 ∧ p4 = .int .i64 10)))
  case atStart => exact ⟨rfl, by simp⟩
  case round =>
    obtain ⟨rfl, hr⟩ := hrel
    rcases hr with hr | hr | hr | hr | hr | hr | hr | hr
    · obtain ⟨rfl, rfl, rfl⟩ := hr
      have hm := h47
      clear h47 h23 h11 h5 h8 h10 h9 hto
      go_wp2_with fail
      go_roundg 6
      case measure => omega
      case rel => exact ⟨rfl, by simp⟩
    · obtain ⟨rfl, rfl, rfl⟩ := hr
      have hm := h23
      clear h47 h23 h11 h5 h8 h10 h9 hto
      go_wp2_with fail
      go_roundg 5
      case measure => omega
      case rel => exact ⟨rfl, by simp⟩
    · obtain ⟨rfl, rfl, rfl⟩ := hr
      have hm := h11
      clear h47 h23 h11 h5 h8 h10 h9 hto
      go_wp2_with fail
      go_roundg 4
      case measure => omega
      case rel => exact ⟨rfl, by simp⟩
    · obtain ⟨rfl, rfl, rfl⟩ := hr
      have hm := h5
      clear h47 h23 h11 h5 h8 h10 h9 hto
      go_wp2_with fail
      go_roundg 3
      case measure => omega
      case rel => exact ⟨rfl, by simp⟩
    · obtain ⟨rfl, rfl, rfl⟩ := hr
      have hm := h8
      clear h47 h23 h11 h5 h8 h10 h9 hto
      go_wp2_with fail
      go_roundg 2
      case measure => omega
      case rel => exact ⟨rfl, by simp⟩
    · obtain ⟨rfl, rfl, rfl⟩ := hr
      have hm := h10
      clear h47 h23 h11 h5 h8 h10 h9 hto
      go_wp2_with fail
      go_roundg 1
      case measure => omega
      case rel => exact ⟨rfl, by simp⟩
    · obtain ⟨rfl, rfl, rfl⟩ := hr
      have hm := h9
      clear h47 h23 h11 h5 h8 h10 h9 hto
      go_wp2_with fail
      go_roundg 0
      case measure => omega
      case rel => exact ⟨rfl, by simp⟩
    · obtain ⟨rfl, rfl, rfl⟩ := hr
      have hm := h10
      clear h47 h23 h11 h5 h8 h10 h9
      go_wp2_with fail
      go_ret
      exact ⟨rfl, rfl⟩
end Go.Proofs.YtkfdcbdlcipmfaaGreatFmt
namespace Go.Proofs.YtkfdcbdlcipmfaaGreatFmt
open Go.RowKit Css Go.Stop
open Go.Extern.Stop Go.Extern
variable {F : Go.Stop.Interp} {W0 w w' : World}
theorem wp_scope_to {P : Program} {a : Act} {w : World} {Q : Exit → Act → World → Prop} {c rest : Code} (l : Nat) (hf : findLabel c l = some rest) (first : c.wp P (Exit.jump l (fun a w => rest.wp P (Exit.noGoto Q) a w) Q) a w) : (Code.scope c).wp P Q a w := by
  refine wp_scope_jumps l (fun a w => rest.wp P (Exit.noGoto Q) a w) (fun _ _ => 0) hf first fun a w h => wp_mono h ?_
  intro e a w hq
  cases e with
  | goto l' => exact hq.elim
  | normal => exact hq
  | exit id => exact hq
  | ret => exact hq
  | panic ch => exact hq
  | outgrown => exact hq
theorem wp_beta {P : Program} {c : Code} {Q : Exit → Act → World → Prop} {a : Act} {w : World} (h : c.wp P Q a w) : (fun a w => c.wp P Q a w) a w := h
def styleT : ByteArray := ⟨#[115, 116, 121, 108, 101]⟩
def styleC : List Int := [115, 116, 121, 108, 101]
def sfN (x : Int) : Int := if x = 115 then 383 else if x = 383 then 83 else if x = 83 then 115 else if x = 116 then 84 else if x = 84 then 116 else if x = 121 then 89 else if x = 89 then 121 else if x = 108 then 76 else if x = 76 then 108 else if x = 101 then 69 else 101
def SfD (x : Int) : Prop := x = 115 ∨ x = 383 ∨ x = 83 ∨ x = 116 ∨ x = 84 ∨ x = 121 ∨ x = 89 ∨ x = 108 ∨ x = 76 ∨ x = 101 ∨ x = 69
theorem sf_any (x : Int) (hx : SfD x) (w : World) (hF : Fold w) : Calls Tryz.prog 132 #[.int .i32 x] w fun e w' => e = .returned (.int .i32 (sfN x)) ∧ w = w' := by
  rcases hx with rfl | rfl | rfl | rfl | rfl | rfl | rfl | rfl | rfl | rfl | rfl
  · exact sf_asc 115 383 (by omega) (by omega) (by omega) w (hF.asc (115, 383) (by simp))
  · exact sf_383 w hF
  · exact sf_asc 83 115 (by omega) (by omega) (by omega) w (hF.asc (83, 115) (by simp))
  · exact sf_asc 116 84 (by omega) (by omega) (by omega) w (hF.asc (116, 84) (by simp))
  · exact sf_asc 84 116 (by omega) (by omega) (by omega) w (hF.asc (84, 116) (by simp))
  · exact sf_asc 121 89 (by omega) (by omega) (by omega) w (hF.asc (121, 89) (by simp))
  · exact sf_asc 89 121 (by omega) (by omega) (by omega) w (hF.asc (89, 121) (by simp))
  · exact sf_asc 108 76 (by omega) (by omega) (by omega) w (hF.asc (108, 76) (by simp))
  · exact sf_asc 76 108 (by omega) (by omega) (by omega) w (hF.asc (76, 108) (by simp))
  · exact sf_asc 101 69 (by omega) (by omega) (by omega) w (hF.asc (101, 69) (by simp))
  · exact sf_asc 69 101 (by omega) (by omega) (by omega) w (hF.asc (69, 101) (by simp))
def Orb (c x : Int) (k : Nat) : Prop :=
  (c = 115 ∧ ((x = 383 ∧ k = 2) ∨ (x = 83 ∧ k = 1) ∨ (x = 115 ∧ k = 0))) ∨ (c = 116 ∧ ((x = 84 ∧ k = 1) ∨ (x = 116 ∧ k = 0))) ∨ (c = 121 ∧ ((x = 89 ∧ k = 1) ∨ (x = 121 ∧ k = 0))) ∨ (c = 108 ∧ ((x = 76 ∧ k = 1) ∨ (x = 108 ∧ k = 0))) ∨ (c = 101 ∧ ((x = 69 ∧ k = 1) ∨ (x = 101 ∧ k = 0)))
theorem orb_step {c x : Int} {k : Nat} (h : Orb c x k) (hx : x ≠ c) : SfD x ∧ ∃ k', k' < k ∧ Orb c (sfN x) k' := by
  unfold Orb at h
  rcases h with ⟨rfl, h⟩ | ⟨rfl, h⟩ | ⟨rfl, h⟩ | ⟨rfl, h⟩ | ⟨rfl, h⟩
  · rcases h with ⟨rfl, rfl⟩ | ⟨rfl, rfl⟩ | ⟨rfl, rfl⟩
    · exact ⟨by unfold SfD; omega, 1, by omega, by unfold Orb sfN; simp⟩
    · exact ⟨by unfold SfD; omega, 0, by omega, by unfold Orb sfN; simp⟩
    · exact absurd rfl hx
  all_goals
    rcases h with ⟨rfl, rfl⟩ | ⟨rfl, rfl⟩
    · exact ⟨by unfold SfD; omega, 0, by omega, by unfold Orb sfN; simp⟩
    · exact absurd rfl hx
theorem orb_start {c : Int} (h : c ∈ styleC) : SfD c ∧ 97 ≤ c ∧ c ≤ 122 ∧ ∃ k, Orb c (sfN c) k := by
  simp only [styleC, List.mem_cons, List.not_mem_nil, or_false] at h
  rcases h with rfl | rfl | rfl | rfl | rfl
  · exact ⟨by unfold SfD; omega, by omega, by omega, 2, by unfold Orb sfN; simp⟩
  all_goals exact ⟨by unfold SfD; omega, by omega, by omega, 1, by unfold Orb sfN; simp⟩
theorem style_drop (i : Nat) : (styleT.extract i styleT.size).data.toList = enc (styleC.drop i) := by
  rw [Lib.extract_to_end]
  have e : styleT.data.toList = enc styleC := by decide
  have key : ∀ (l : List Int) (i : Nat), (∀ c ∈ l, wd c = 1) → (enc l).drop i = enc (l.drop i) := by
    intro l
    induction l with
    | nil => intro i _; simp [enc]
    | cons c t ih =>
      intro i h
      cases i with
      | zero => simp
      | succ i =>
        have h1 : (enc1 c).length = 1 := by rw [enc1_length]; exact h c (by simp)
        rw [enc_cons, List.drop_append, h1, List.drop_eq_nil_of_le (by omega), List.nil_append, Nat.add_sub_cancel, ih i (fun x hx => h x (by simp [hx]))]
        rfl
  rw [e, key styleC i (by decide)]
set_option maxHeartbeats 8000000 in
set_option maxRecDepth 100000 in
theorem fold_any (s : ByteArray) (hs : s.size = 5) (w : World) (hE : Env F W0 w) :
    Calls Tryz.prog 102 #[.string s, .string styleT] w fun e w' => (∃ b : Bool, e = .returned (.bool b)) ∧ Below w.heap.size w w' := by
  have HS := Lib.hid hs
  have hss : (s.size : Int) = 5 := by omega
  have hst : (styleT.size : Int) = 5 := by decide
  have HE := Lib.hid hE
  clear hs hE
  go_enter Tryz.func102, Tryz.ntmps102
  go_wp2_with fail
  refine wp_scope_to 0 rfl ?_
  go_wp2_with fail
  go_loopg [5] 5 (fun k p wr => wr = w ∧ ∃ i : Nat, i + k = 5 ∧ p = .int .i64 i)
  case atStart => exact ⟨rfl, 0, rfl, rfl⟩
  case round =>
    obtain ⟨rfl, i, hik, rfl⟩ := hrel
    by_cases hi : (i : Int) < 5
    · have hi0 : 0 ≤ (i : Int) := by omega
      have hx := bt_get s i
      have hxt := bt_get styleT i
      have hr := bt_range s i
      have hrt := bt_range styleT i
      generalize bt s i = b at hx hr
      generalize bt styleT i = d at hxt hrt
      go_upto_if 33 with fail
      generalize decide (128 ≤ bits BinOp.or IntKind.u8 b d) = B
      cases B
      · go_wp2_with fail
        all_goals first
          | (go_roundg (4 - i)
             case measure => omega
             case rel => exact ⟨rfl, i + 1, by omega, by first | rfl | (congr 1; omega)⟩)
          | (simp only [Exit.jump_ret]
             go_ret
             exact ⟨⟨_, rfl⟩, Below.refl _ _⟩)
          | (go_ret
             exact ⟨⟨_, rfl⟩, Below.refl _ _⟩)
          | trace_state
      · go_wp2_with fail
        refine wp_goto (And.intro rfl (wp_beta ?_))
        go_wp2_with fail
        have hT0 := style_drop i
        generalize s.extract i s.size = S
        generalize styleT.extract i styleT.size = T0 at hT0 ⊢
        have HT0 : Hid (T0.data.toList = enc (styleC.drop i) ∧ ∀ c ∈ styleC.drop i, c ∈ styleC) := ⟨hT0, fun c hc => List.mem_of_mem_drop hc⟩
        generalize styleC.drop i = R0 at HT0
        clear hT0
        rename World => w0
        have HIT0 : Hid ((w0.iter S 0).heap[w0.heap.size]? = some (.stringIter S 0)) := World.iter_heap w0 S 0
        have HK0 : Hid (Below w0.heap.size w0 (w0.iter S 0)) := (Below.refl _ _).alloc (Nat.le_refl _) _
        clear hr hrt hi0 hi hss hst hik
        go_loopg [1] R0.length (fun k p wx => ∃ (T : ByteArray) (R : List Int) (pos : Nat), p = .string T ∧ Hid (T.data.toList = enc R ∧ (∀ c ∈ R, c ∈ styleC)) ∧ R.length = k ∧ Hid (wx.heap[w0.heap.size]? = some (.stringIter S pos)) ∧ Hid (Below w0.heap.size w0 wx))
        case atStart => exact ⟨T0, R0, 0, rfl, HT0, rfl, HIT0, HK0⟩
        case round =>
          obtain ⟨T, R, pos, rfl, HT, hk, HIT, HK⟩ := hrel
          clear HT0 HIT0 HK0
          by_cases hpos : pos < S.size
          · have hnext : ∀ ty, (Instr.next (.pointer (some ⟨w0.heap.size, 0, none⟩)) true ty).run Tryz.prog wr = _ := fun ty => Lib.run_next_any_at wr w0.heap.size S pos ty HIT.out hpos
            have hdle := decode_le S pos
            have HIT1 := Lib.hid (Lib.iterAt_heap wr w0.heap.size S pos (pos + (Utf8.decode S pos).2) HIT.out)
            have HK1 : Hid (Below w0.heap.size w0 (wr.iterAt w0.heap.size S (pos + (Utf8.decode S pos).2))) := Lib.below_iterAt HK.out (Nat.le_refl _) S _
            generalize wr.iterAt w0.heap.size S (pos + (Utf8.decode S pos).2) = W1 at hnext HIT1 HK1
            generalize pos + (Utf8.decode S pos).2 = pos1 at HIT1
            generalize (Utf8.decode S pos).1 = rn at hnext hdle
            obtain ⟨r, hr⟩ : ∃ r : Int, ((rn : Nat) : Int) = r := ⟨_, rfl⟩
            have hr0 : 0 ≤ r := by omega
            have hr1 : r ≤ 2147483647 := by omega
            rw [hr] at hnext
            clear hr hdle hpos HIT HK
            cases R with
            | nil =>
              have hT0 : (T.size : Int) = 0 := by have : T.size = 0 := size_enc HT.out.1; omega
              go_wp2_with fail
              (try rw [Exit.noGoto_ret])
              go_ret
              exact ⟨⟨_, rfl⟩, HK1.out⟩
            | cons c R' =>
              have hcm := HT.out.2 c (by simp)
              obtain ⟨hSD, hc97, hc122, k0, hO0⟩ := orb_start hcm
              have HSD := Lib.hid hSD
              have HO0 := Lib.hid hO0
              have hw1 : wd c = 1 := by unfold wd; rw [if_pos (by omega)]
              have HW1 := Lib.hid hw1
              have hts := size_enc HT.out.1
              rw [enc_length_cons, hw1] at hts
              have hT1 : (1 : Int) ≤ (T.size : Int) := by omega
              have HVC : Hid (Valid c) := by show Valid c; unfold Valid; omega
              have HX : Hid ((T.extract 1 T.size).data.toList = enc R' ∧ ∀ c ∈ R', c ∈ styleC) := ⟨extract_enc (A := enc1 c) (R := enc R') (by rw [HT.out.1, enc_cons]) 1 (by rw [enc1_length]; exact hw1.symm), fun x hx => HT.out.2 x (by simp [hx])⟩
              have HTB := Lib.hid (HE.out.below HK1.out).tabs
              have hk2 : R'.length < gk := by simp at hk; omega
              have HK2' := Lib.hid hk2
              clear hSD hO0 hw1 hts hcm hk hk2
              go_upto_region 23 with (go_at_call 100; go_must (refine (dec_cons T c R' HVC.out HT.out.1 _ HTB.out).mono ?_; rintro e' W2 ⟨rfl, hb2⟩; have HB2 := Lib.hid hb2; clear hb2; rw [HW1.out]))
              have HK2 : Hid (Below w0.heap.size w0 W2) := HK1.out.trans (HB2.out.mono HK1.out.size)
              have HIT2 : Hid (W2.heap[w0.heap.size]? = some (.stringIter S pos1)) := (HB2.out.block _ (Array.getElem?_eq_some_iff.1 HIT1.out).1).trans HIT1.out
              have HFO := Lib.hid (HE.out.below HK2.out).fold
              clear HIT1 HK1 HB2 hnext
              have HREL : Hid (∃ (T' : ByteArray) (R : List Int) (pos : Nat), Value.string (T.extract 1 T.size) = .string T' ∧ Hid (T'.data.toList = enc R ∧ (∀ c ∈ R, c ∈ styleC)) ∧ R.length = R'.length ∧ Hid (W2.heap[w0.heap.size]? = some (.stringIter S pos)) ∧ Hid (Below w0.heap.size w0 W2)) := ⟨_, R', pos1, rfl, HX, rfl, HIT2, HK2⟩
              cases heq : (c == r)
              · by_cases hlt : c < r
                · by_cases h128 : r < 128
                  · go_wp2_with fail
                    all_goals first
                      | (go_roundg R'.length
                         case measure => exact HK2'.out
                         case rel => exact HREL.out)
                      | ((try rw [Exit.noGoto_ret])
                         go_ret
                         exact ⟨⟨_, rfl⟩, HK2.out⟩)
                  · go_wp2_with (go_at_call 132; go_must (refine (sf_any c HSD.out _ HFO.out).mono ?_; rintro e' W3 ⟨rfl, rfl⟩))
                    have hcr : ¬ r = c := by omega
                    clear heq
                    go_loopg [13] k0 (fun k p wx => wx = W2 ∧ ∃ x : Int, p = .int .i32 x ∧ Hid (Orb c x k))
                    case atStart => exact ⟨rfl, _, rfl, HO0⟩
                    case round =>
                      obtain ⟨rfl, x, rfl, HO⟩ := hrel
                      by_cases hxc : x = c
                      · subst hxc
                        go_wp2_with fail
                        all_goals first
                          | (go_roundg R'.length
                             case measure => exact HK2'.out
                             case rel => exact HREL.out)
                          | ((try rw [Exit.noGoto_ret])
                             go_ret
                             exact ⟨⟨_, rfl⟩, HK2.out⟩)
                          | trace_state
                      · have hst := orb_step HO.out hxc
                        have HST := Lib.hid hst
                        clear hst
                        have hxb : (x != c) = true := by simp [hxc]
                        clear hxc
                        by_cases hxr : x < r
                        · go_wp2_with (go_at_call 132; go_must (refine (sf_any x HST.out.1 _ HFO.out).mono ?_; rintro e' W3 ⟨rfl, rfl⟩))
                          obtain ⟨k', hk', hO'⟩ := HST.out.2
                          go_roundg k'
                          case measure => exact hk'
                          case rel => exact ⟨rfl, _, rfl, hO'⟩
                        · go_wp2_with fail
                          all_goals first
                            | (go_roundg R'.length
                               case measure => exact HK2'.out
                               case rel => exact HREL.out)
                            | ((try rw [Exit.noGoto_ret])
                               go_ret
                               exact ⟨⟨_, rfl⟩, HK2.out⟩)
                            | trace_state
                · go_wp2_with fail
                  all_goals first
                    | (go_roundg R'.length
                       case measure => exact HK2'.out
                       case rel => exact HREL.out)
                    | ((try rw [Exit.noGoto_ret])
                       go_ret
                       exact ⟨⟨_, rfl⟩, HK2.out⟩)
                    | trace_state
              · go_wp2_with fail
                go_roundg R'.length
                case measure => exact HK2'.out
                case rel => exact HREL.out
          · have hnext : ∀ ty, (Instr.next (.pointer (some ⟨w0.heap.size, 0, none⟩)) true ty).run Tryz.prog wr = _ := fun ty => Lib.run_next_end_at wr w0.heap.size S pos ty HIT.out hpos
            go_wp2_with fail
            (try rw [Exit.noGoto_ret])
            go_ret
            exact ⟨⟨_, rfl⟩, HK.out⟩
    · have hi5 : (i : Int) = 5 := by omega
      go_wp2_with fail
      all_goals
        go_ret
        exact ⟨⟨_, rfl⟩, Below.refl _ _⟩
end Go.Proofs.YtkfdcbdlcipmfaaGreatFmt
namespace Go.Proofs.YtkfdcbdlcipmfaaGreatFmt
open Go.RowKit Css Go.Stop
open Go.Extern.Stop Go.Extern
variable {F : Go.Stop.Interp} {W0 w w' : World}
theorem fold_lit (s : ByteArray) (hs : s.size = 5) (w : World) (hE : Env F W0 w) :
    Calls Tryz.prog 102 #[.string s, .string ⟨#[115, 116, 121, 108, 101]⟩] w fun e w' => (∃ b : Bool, e = .returned (.bool b)) ∧ Below w.heap.size w w' := fold_any s hs w hE
set_option maxRecDepth 100000 in
theorem has_style (w : World) : Calls Tryz.prog 101 #[.int .u16 0, .int .u16 64] w fun e w' => e = .returned (.bool false) ∧ w = w' := by
  go_enter Tryz.func101, Tryz.ntmps101
  go_wp2
  go_ret
  exact ⟨rfl, rfl⟩
def QOk (asc : Bool) (q : Int) (E : Nat) (c : Int) : Prop :=
  (E = 0 ∧ c ≠ q ∧ c ≠ 92 ∧ ¬ isNl c ∧ (asc = true → c < 128) ∧ c ≠ 65279) ∨ (E = 1 ∧ (c = q ∨ c = 92 ∨ c = 47)) ∨ (E = 2 ∧ (isNl c ∨ c = 65279 ∨ (asc = true ∧ 128 ≤ c)))
theorem qok_out {asc : Bool} {q : Int} {E : Nat} {c : Int} {t out : List Int} (hq : q = 34 ∨ q = 39) (h : QOk asc q E c) (hc : asc = true → c < 1048576) (ho : StrOut q asc t out) : StrOut q asc (c :: t) (escOut E c t false ++ out) := by
  rcases h with ⟨rfl, h1, h2, h3, h4, h5⟩ | ⟨rfl, h1⟩ | ⟨rfl, h1⟩
  · exact StrOut.plain c t out ho h1 h2 h3 h4 h5
  · have : ¬ isHex c := by unfold isHex; omega
    unfold escOut
    rw [if_neg (by decide), if_pos ⟨rfl, this⟩]
    exact StrOut.slash c t out ho h1
  · have hlt : c < 1048576 := by
      rcases h1 with h | h | ⟨h, _⟩
      · unfold isNl at h; omega
      · omega
      · exact hc h
    have := hexs_small hlt
    unfold escOut
    rw [if_neg (by decide), if_neg (by rintro ⟨h, _⟩; omega)]
    have e : decide ((hexs c).length < 6) = true := by simp; omega
    rw [e, Bool.true_and, List.cons_append, List.append_assoc]
    exact StrOut.hex c t out ho h1
theorem qok_len {asc : Bool} {q : Int} {E : Nat} {c : Int} {t : List Int} (hv : Valid c) : (enc (escOut E c t false)).length ≤ 16 := by
  have hl : (hexs c).length ≤ 6 := hexsN_len 5 c.toNat (by unfold Valid at hv; omega)
  have he := enc_hex_len (hexs c) (hexsN_hex _)
  have hw := wd_pos c
  unfold escOut
  split
  · rw [enc_length_cons]; simp [enc]; omega
  · split
    · rw [enc_length_cons, enc_length_cons]; have := wd_pos 92; simp [enc]; omega
    · rw [enc_length_cons, enc_append, List.length_append, he]
      have := wd_pos 92
      split
      · rw [enc_length_cons]; have := wd_pos 32; simp [enc]; omega
      · simp [enc]; omega
section
variable {ops : Array Oper} {o : Oper} {a : Act} {K : Act → World → Prop} {Q : Exit → Act → World → Prop} {E : Prop}
theorem step_puts (hgd : o.guard = none) (s x : Operand) (ho : o.op = .call { callee := .builtin .append, args := #[s, x], argTypes := #[117, 9] })
    {B g : Nat} {mini asc : Bool} {bs : List UInt8} {v : Value} {w : World} (H : At B g mini asc bs v w) (t : ByteArray)
    (hs : a.eval s = v) (hx : a.eval x = .string t) (n : Nat) (hn : n = bs.length + t.size) (hl : bs.length + t.size ≤ 140737488355328)
    (h : ∀ A cap w', PR B g mini asc v w' → At B g mini asc (bs ++ t.data.toList) (.slice A n cap) (w'.setCell ⟨g, 15, none⟩ (.slice A n cap)) → Ke B g w (w'.setCell ⟨g, 15, none⟩ (.slice A n cap)) → K (a.put o.dst (.slice A n cap)) w') :
    if Region.wanted o (yielded ops a.tmps) = true then Oper.wp Tryz.prog o a w.drew K Q else E := by
  have hw : Region.wanted o (yielded ops a.tmps) = true := by simp [Region.wanted, hgd]
  rw [if_pos hw]
  subst hn
  obtain ⟨i5, hi, hz0, hz1, hz2⟩ := info_parts5
  have H1 := H.drew
  obtain ⟨v', w', hr, h2, h3, h4⟩ := Lib.run_append_own_string (P := Tryz.prog) w.drew B 117 9 o.type 5 i5 Tryz.underlying117 Tryz.underlying9 hi hz0 hz1 hz2 v bs.length (bv bs) H1.own t (by unfold maxLen; omega) hl H1.base
  have hgo : K (a.put o.dst v') w' := by
    obtain ⟨A, c, rfl⟩ := own_slice h2
    have h2' : w'.ownsRow B 5 1 (.slice A (bs.length + t.size) c) (bs.length + t.size) (bv bs ++ bv t.data.toList) := by simpa [bv, Lib.strCells] using h2
    have hlen : bs.length + t.size = bs.length + t.data.toList.length := rfl
    have := at_of_store H1 h3 h2' hlen
    exact h A c w' (H1.pr.grown H1.own h3) this.1 (Ke.of_drew this.2)
  unfold Oper.wp execOp
  simp only [ho, resolve, invoke, builtin, Sem.run_bind, Sem.run_pure, Result.andThen_ok, List.map_toArray, List.map_cons, List.map_nil, hs, hx, hr]
  exact hgo
end
theorem seg_more {L A X R : List UInt8} (h : L = A ++ (X ++ R)) {rs : Nat} (hr : rs ≤ A.length) : (L.take (A.length + X.length)).drop rs = (L.take A.length).drop rs ++ X := by
  subst h
  have e1 : (A ++ (X ++ R)).take (A.length + X.length) = A ++ X := by
    rw [← List.append_assoc, List.take_append_of_le_length (by simp), List.take_of_length_le (by simp)]
  rw [e1, List.take_left, List.drop_append_of_le_length hr]
theorem extract_list (s : ByteArray) (a b : Nat) : (s.extract a b).data.toList = (s.data.toList.take b).drop a := by
  have : (s.extract a b).data = s.data.extract a b := by simp
  rw [this, Array.toList_extract]
  simp [List.extract, List.drop_take]
end Go.Proofs.YtkfdcbdlcipmfaaGreatFmt
namespace Go.Proofs.YtkfdcbdlcipmfaaGreatFmt
open Go.RowKit Css Go.Stop
open Go.Extern.Stop Go.Extern
def ops45 : Array Oper := #[{ dst := some 186, op := Op.move (Operand.tmp 0), type := 171, pos := "css_printer.go:965", after := #[], guard := none }, { dst := some 187, op := Op.move (Operand.tmp 0), type := 171, pos := "css_printer.go:965", after := #[], guard := none }, { dst := some 188, op := Op.nilCheck (Operand.tmp 187), type := 0, pos := "css_printer.go:965", after := #[{ on := 1, ground := Ground.data }], guard := none }, { dst := some 189, op := Op.fieldAddr 160 (Operand.tmp 188) 3, type := 0, pos := "css_printer.go:965", after := #[{ on := 2, ground := Ground.data }], guard := none }, { dst := some 190, op := Op.load 117 (Operand.tmp 189), type := 117, pos := "css_printer.go:965", after := #[{ on := 3, ground := Ground.data }], guard := none }, { dst := some 191, op := Op.move (Operand.tmp 1), type := 9, pos := "css_printer.go:965", after := #[], guard := none }, { dst := some 192, op := Op.move (Operand.tmp 10), type := 3, pos := "css_printer.go:965", after := #[], guard := none }, { dst := some 193, op := Op.move (Operand.tmp 9), type := 3, pos := "css_printer.go:965", after := #[], guard := none }, { dst := some 194, op := Op.slice 9 (Operand.tmp 191) (some (Operand.tmp 192)) (some (Operand.tmp 193)) none, type := 9, pos := "css_printer.go:965", after := #[{ on := 5, ground := Ground.data }, { on := 6, ground := Ground.data }, { on := 7, ground := Ground.data }], guard := none }, { dst := some 195, op := Op.call { callee := Callee.builtin Builtin.append, args := #[Operand.tmp 190, Operand.tmp 194], argTypes := #[117, 9] }, type := 117, pos := "css_printer.go:965", after := #[{ on := 4, ground := Ground.data }, { on := 8, ground := Ground.data }], guard := none }, { dst := some 196, op := Op.nilCheck (Operand.tmp 186), type := 0, pos := "css_printer.go:965", after := #[{ on := 0, ground := Ground.data }, { on := 0, ground := Ground.phase }, { on := 1, ground := Ground.phase }, { on := 2, ground := Ground.phase }, { on := 3, ground := Ground.phase }, { on := 4, ground := Ground.phase }, { on := 5, ground := Ground.phase }, { on := 6, ground := Ground.phase }, { on := 7, ground := Ground.phase }, { on := 8, ground := Ground.phase }, { on := 9, ground := Ground.phase }], guard := none }, { dst := some 197, op := Op.fieldAddr 160 (Operand.tmp 196) 3, type := 0, pos := "css_printer.go:965", after := #[{ on := 10, ground := Ground.data }, { on := 0, ground := Ground.phase }, { on := 1, ground := Ground.phase }, { on := 2, ground := Ground.phase }, { on := 3, ground := Ground.phase }, { on := 4, ground := Ground.phase }, { on := 5, ground := Ground.phase }, { on := 6, ground := Ground.phase }, { on := 7, ground := Ground.phase }, { on := 8, ground := Ground.phase }, { on := 9, ground := Ground.phase }], guard := none }, { dst := none, op := Op.store 117 (Operand.tmp 197) (Operand.tmp 195), type := 0, pos := "css_printer.go:965", after := #[{ on := 11, ground := Ground.data }, { on := 9, ground := Ground.data }, { on := 9, ground := Ground.chain }, { on := 0, ground := Ground.phase }, { on := 1, ground := Ground.phase }, { on := 2, ground := Ground.phase }, { on := 3, ground := Ground.phase }, { on := 4, ground := Ground.phase }, { on := 5, ground := Ground.phase }, { on := 6, ground := Ground.phase }, { on := 7, ground := Ground.phase }, { on := 8, ground := Ground.phase }, { on := 9, ground := Ground.phase }], guard := none }]
theorem of_step {c : Prop} [Decidable c] {A E : Prop} (hc : c) (h : if c then A else E) : A := by rwa [if_pos hc] at h
set_option maxHeartbeats 1600000 in
set_option maxRecDepth 100000 in
theorem puts_region {B g : Nat} {mini asc : Bool} {bs : List UInt8} {v : Value} {w : World} (H : At B g mini asc bs v w) (s : ByteArray) (rs p : Nat) (h1 : rs ≤ p) (h2 : p ≤ s.size) (hz : bs.length + (s.extract rs p).size ≤ 140737488355328) (n : Nat) (hn : n = bs.length + (s.extract rs p).size)
    {Q : Exit → Act → World → Prop} {id : Nat} (T : Array Value) (ds : List Deferred) (hsz : T.size = 237) (s0 : Sl T 0 (.pointer (some ⟨g, 0, none⟩))) (s1 : Sl T 1 (.string s)) (s9 : Sl T 9 (.int .i64 (p : Int))) (s10 : Sl T 10 (.int .i64 (rs : Int)))
    (h : ∀ A cap W', At B g mini asc (bs ++ (s.extract rs p).data.toList) (.slice A n cap) W' → Ke B g w W' → Q .normal ⟨((((((((((((T.setIfInBounds 186 (.pointer (some ⟨g, 0, none⟩))).setIfInBounds 187 (.pointer (some ⟨g, 0, none⟩))).setIfInBounds 188 (.pointer (some ⟨g, 0, none⟩))).setIfInBounds 189 (.pointer (some ⟨g, 15, none⟩))).setIfInBounds 190 (v)).setIfInBounds 191 (.string s)).setIfInBounds 192 (.int .i64 (rs : Int))).setIfInBounds 193 (.int .i64 (p : Int))).setIfInBounds 194 (.string (s.extract rs p))).setIfInBounds 195 (.slice A n cap)).setIfInBounds 196 (.pointer (some ⟨g, 0, none⟩))).setIfInBounds 197 (.pointer (some ⟨g, 15, none⟩))), ds⟩ W') : (Code.region id ops45 true).wp Tryz.prog Q ⟨T, ds⟩ w := by
  have t0 := s0.get
  have t1 := s1.get
  have t9 := s9.get
  have t10 := s10.get
  have HH := Lib.hid h
  clear h
  have i0 : (rs : Int) ≤ (p : Int) := by omega
  have i1 : (p : Int) ≤ (s.size : Int) := by omega
  have i2 : (0 : Int) ≤ (rs : Int) := by omega
  refine wp_region_noPanic ?_
  refine wp_region_lastly (S := fun w' => w'.cell? ⟨g, 15, none⟩ = some v) 12 _ rfl rfl rfl (by kernel_rfl) (by kernel_rfl) (by kernel_rfl) ?_
  change wpAnyH Tryz.prog .any _ _ _ 13 _ _ w.drew
  have hS0 : (fun w' : World => w'.cell? ⟨g, 15, none⟩ = some v) w.drew := H.pr.css
  refine take_op 0 (Op.move (.tmp 0)) (some 186) (by kernel_rfl) (by kernel_rfl) (by kernel_rfl) (by kernel_rfl) (fun _ _ _ _ h => h) (.pointer (some ⟨g, 0, none⟩)) (fun o ho w' hw' => by unfold execOp; rw [ho]; simp [go_sem, hsz, t0, t1, t9, t10, hw', i0, i1, i2]) hS0 ?_
  refine take_op 1 (Op.move (.tmp 0)) (some 187) (by kernel_rfl) (by kernel_rfl) (by kernel_rfl) (by kernel_rfl) (fun _ _ _ _ h => h) (.pointer (some ⟨g, 0, none⟩)) (fun o ho w' hw' => by unfold execOp; rw [ho]; simp [go_sem, hsz, t0, t1, t9, t10, hw', i0, i1, i2]) hS0 ?_
  refine take_op 2 (Op.nilCheck (.tmp 187)) (some 188) (by kernel_rfl) (by kernel_rfl) (by kernel_rfl) (by kernel_rfl) (fun _ _ _ _ h => h) (.pointer (some ⟨g, 0, none⟩)) (fun o ho w' hw' => by unfold execOp; rw [ho]; simp [go_sem, hsz, t0, t1, t9, t10, hw', i0, i1, i2]) hS0 ?_
  refine take_op 3 (Op.fieldAddr 160 (.tmp 188) 3) (some 189) (by kernel_rfl) (by kernel_rfl) (by kernel_rfl) (by kernel_rfl) (fun _ _ _ _ h => h) (.pointer (some ⟨g, 15, none⟩)) (fun o ho w' hw' => by unfold execOp; rw [ho]; simp [go_sem, hsz, t0, t1, t9, t10, hw', i0, i1, i2]) hS0 ?_
  refine take_op 4 (Op.load 117 (.tmp 189)) (some 190) (by kernel_rfl) (by kernel_rfl) (by kernel_rfl) (by kernel_rfl) (fun _ _ _ _ h => h) (v) (fun o ho w' hw' => by unfold execOp; rw [ho]; simp [go_sem, hsz, t0, t1, t9, t10, hw', i0, i1, i2]) hS0 ?_
  refine take_op 5 (Op.move (.tmp 1)) (some 191) (by kernel_rfl) (by kernel_rfl) (by kernel_rfl) (by kernel_rfl) (fun _ _ _ _ h => h) (.string s) (fun o ho w' hw' => by unfold execOp; rw [ho]; simp [go_sem, hsz, t0, t1, t9, t10, hw', i0, i1, i2]) hS0 ?_
  refine take_op 6 (Op.move (.tmp 10)) (some 192) (by kernel_rfl) (by kernel_rfl) (by kernel_rfl) (by kernel_rfl) (fun _ _ _ _ h => h) (.int .i64 (rs : Int)) (fun o ho w' hw' => by unfold execOp; rw [ho]; simp [go_sem, hsz, t0, t1, t9, t10, hw', i0, i1, i2]) hS0 ?_
  refine take_op 7 (Op.move (.tmp 9)) (some 193) (by kernel_rfl) (by kernel_rfl) (by kernel_rfl) (by kernel_rfl) (fun _ _ _ _ h => h) (.int .i64 (p : Int)) (fun o ho w' hw' => by unfold execOp; rw [ho]; simp [go_sem, hsz, t0, t1, t9, t10, hw', i0, i1, i2]) hS0 ?_
  refine take_op 8 (Op.slice 9 (.tmp 191) (some (.tmp 192)) (some (.tmp 193)) none) (some 194) (by kernel_rfl) (by kernel_rfl) (by kernel_rfl) (by kernel_rfl) (fun _ _ _ _ h => h) (.string (s.extract rs p)) (fun o ho w' hw' => by unfold execOp; rw [ho]; simp [go_sem, hsz, t0, t1, t9, t10, hw', i0, i1, i2]) hS0 ?_
  refine ready_op 9 (.call { callee := .builtin .append, args := #[.tmp 190, .tmp 194], argTypes := #[117, 9] }) (some 195) (by kernel_rfl) (by kernel_rfl) fun o ho hg hd => ?_
  have hh := fun (a : Act) (K : Act → World → Prop) (h1 : a.eval (.tmp 190) = v) (h2 : a.eval (.tmp 194) = .string (s.extract rs p)) hK => of_step (E := True) (by simp [Region.wanted, hg]) (step_puts (ops := ops45) (a := a) (K := K) (Q := LastQ Tryz.prog ops45 (NoPanic Q) 12) hg _ _ ho H (s.extract rs p) h1 h2 n hn hz hK)
  refine hh _ _ (by simp [Act.eval, Act.put, hsz]) (by simp [Act.eval, Act.put, hsz]) ?_
  intro A4 cap4 w4 hp4 hat4 hke4
  have hc4 := hp4.css
  have hf4 := hp4.free
  refine ⟨hc4, ?_⟩
  rw [hd]
  refine next_op 10 (.nilCheck (.tmp 186)) (some 196) (by kernel_rfl) (by kernel_rfl) (.pointer (some ⟨g, 0, none⟩)) (fun o ho => by unfold execOp; rw [ho]; simp [go_sem, hsz]) hc4 ?_
  refine next_op 11 (.fieldAddr 160 (.tmp 196) 3) (some 197) (by kernel_rfl) (by kernel_rfl) (.pointer (some ⟨g, 15, none⟩)) (fun o ho => by unfold execOp; rw [ho]; simp [go_sem, hsz]) hc4 ?_
  refine last_val 12 (.move (.const undef)) none (by kernel_rfl) (by kernel_rfl) (by kernel_rfl) undef (fun o ho => by unfold execOp; rw [ho]; simp [go_sem]) hc4 ?_
  refine lastQ_op (.store 117 (.tmp 197) (.tmp 195)) none (by kernel_rfl) fun o ho hd => ?_
  unfold Oper.wp execOp
  rw [ho]
  simp [go_sem, hsz, hc4, hf4, hd]
  exact HH.out _ _ _ hat4 hke4
end Go.Proofs.YtkfdcbdlcipmfaaGreatFmt
