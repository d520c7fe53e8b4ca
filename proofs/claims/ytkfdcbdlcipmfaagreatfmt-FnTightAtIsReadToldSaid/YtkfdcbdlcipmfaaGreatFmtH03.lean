/- Walks: utf8.EncodeRune. -/
import Derived.Test.YtkfdcbdlcipmfaaGreatFmtH00
import Derived.Test.YtkfdcbdlcipmfaaGreatFmtH02
import Derived.Stop.CallBack
import Derived.Stop.FmtLaws
import Derived.Stop.IfaceNil
import Derived.Stop.FmtTextKit
import Derived.Stop.FmtTextBases
import Derived.Stop.JoinedTold
import Derived.Stop.Told
import Derived.Stop.Texts
import GoSem.ClaimData
import Derived.Shelf.Small.Utf8
import Derived.Shelf.Unicode.DecodeAny
import Derived.Shelf.Strings.CaseAny
import Derived.Test.YtkfdcbdlcipmfaaGreatFmtProg
import Derived.StillTailTactics
import Derived.Deep.RegionLaw
set_option linter.unusedVariables false
set_option linter.unusedSimpArgs false
namespace Go.Proofs.YtkfdcbdlcipmfaaGreatFmt
open Go.RowKit Css
def putCells (w : World) (b : Nat) : Nat → List Value → World
  | _, [] => w
  | i, x :: l => putCells (w.setCell ⟨b, i, none⟩ x) b (i + 1) l
set_option maxHeartbeats 400000 in
set_option maxRecDepth 100000 in
theorem enc_one (b : Nat) (c : Int) (h1 : 1 ≤ c) (h2 : c < 128) (w : World) (u0 : Value)
    (c0 : w.cell? ⟨b, 0, none⟩ = some u0) (f0 : w.frozen? ⟨b, 0, none⟩ = false) :
    Calls Tryz.prog 133 #[.slice (some ⟨b, 0, none⟩) 4 4, .int .i32 c] w fun e w' => e = .returned (.int .i64 1) ∧ w' = w.setCell ⟨b, 0, none⟩ (.int .u8 c) := by
  go_enter Tryz.func133, Tryz.ntmps133
  go_wp2
  go_ret
  exact ⟨rfl, rfl⟩
set_option maxHeartbeats 400000 in
set_option maxRecDepth 100000 in
theorem enc_two (b : Nat) (c : Int) (h1 : 128 ≤ c) (h2 : c < 2048) (w : World) (u0 u1 : Value)
    (c0 : w.cell? ⟨b, 0, none⟩ = some u0) (c1 : w.cell? ⟨b, 1, none⟩ = some u1) (f0 : w.frozen? ⟨b, 0, none⟩ = false) (f1 : w.frozen? ⟨b, 1, none⟩ = false) :
    Calls Tryz.prog 133 #[.slice (some ⟨b, 0, none⟩) 4 4, .int .i32 c] w fun e w' => e = .returned (.int .i64 2) ∧ w' = (w.setCell ⟨b, 0, none⟩ (.int .u8 (192 + c / 64))).setCell ⟨b, 1, none⟩ (.int .u8 (128 + c % 64)) := by
  go_enter Tryz.func133, Tryz.ntmps133
  go_wp2
  go_ret
  exact ⟨rfl, rfl⟩
set_option maxHeartbeats 800000 in
set_option maxRecDepth 100000 in
theorem enc_three (b : Nat) (c : Int) (h1 : 2048 ≤ c) (h2 : c < 65536) (h3 : c < 55296 ∨ 57344 ≤ c) (w : World) (u0 u1 u2 : Value)
    (c0 : w.cell? ⟨b, 0, none⟩ = some u0) (c1 : w.cell? ⟨b, 1, none⟩ = some u1) (c2 : w.cell? ⟨b, 2, none⟩ = some u2) (f0 : w.frozen? ⟨b, 0, none⟩ = false) (f1 : w.frozen? ⟨b, 1, none⟩ = false) (f2 : w.frozen? ⟨b, 2, none⟩ = false) :
    Calls Tryz.prog 133 #[.slice (some ⟨b, 0, none⟩) 4 4, .int .i32 c] w fun e w' => e = .returned (.int .i64 3) ∧ w' = ((w.setCell ⟨b, 0, none⟩ (.int .u8 (224 + c / 4096))).setCell ⟨b, 1, none⟩ (.int .u8 (128 + c / 64 % 64))).setCell ⟨b, 2, none⟩ (.int .u8 (128 + c % 64)) := by
  rcases h3 with h3 | h3
  · go_enter Tryz.func133, Tryz.ntmps133
    go_wp2
    go_ret
    exact ⟨rfl, rfl⟩
  · have h4 : ¬ c < 55296 := by omega
    have h5 : 57343 < c := by omega
    go_enter Tryz.func133, Tryz.ntmps133
    go_wp2
    go_ret
    exact ⟨rfl, rfl⟩
set_option maxHeartbeats 800000 in
set_option maxRecDepth 100000 in
theorem enc_four (b : Nat) (c : Int) (h1 : 65536 ≤ c) (h2 : c ≤ 1114111) (w : World) (u0 u1 u2 u3 : Value)
    (c0 : w.cell? ⟨b, 0, none⟩ = some u0) (c1 : w.cell? ⟨b, 1, none⟩ = some u1) (c2 : w.cell? ⟨b, 2, none⟩ = some u2) (c3 : w.cell? ⟨b, 3, none⟩ = some u3) (f0 : w.frozen? ⟨b, 0, none⟩ = false) (f1 : w.frozen? ⟨b, 1, none⟩ = false) (f2 : w.frozen? ⟨b, 2, none⟩ = false) (f3 : w.frozen? ⟨b, 3, none⟩ = false) :
    Calls Tryz.prog 133 #[.slice (some ⟨b, 0, none⟩) 4 4, .int .i32 c] w fun e w' => e = .returned (.int .i64 4) ∧ w' = (((w.setCell ⟨b, 0, none⟩ (.int .u8 (240 + c / 262144))).setCell ⟨b, 1, none⟩ (.int .u8 (128 + c / 4096 % 64))).setCell ⟨b, 2, none⟩ (.int .u8 (128 + c / 64 % 64))).setCell ⟨b, 3, none⟩ (.int .u8 (128 + c % 64)) := by
  go_enter Tryz.func133, Tryz.ntmps133
  go_wp2
  go_ret
  exact ⟨rfl, rfl⟩
theorem by8_val {x : Int} (h0 : 0 ≤ x) (h : x < 256) : Value.int .u8 (((by8 x).toNat : Nat) : Int) = .int .u8 x := by rw [by8_nat h0 h]
theorem encode_any (b : Nat) (c : Int) (hv : Valid c) (w : World) (hc : ∀ j, j < 4 → ∃ u, w.cell? ⟨b, j, none⟩ = some u) (hf : ∀ j, j < 4 → w.frozen? ⟨b, j, none⟩ = false) :
    Calls Tryz.prog 133 #[.slice (some ⟨b, 0, none⟩) 4 4, .int .i32 c] w fun e w' => e = .returned (.int .i64 (wd c : Nat)) ∧ w' = putCells w b 0 (bv (enc1 c)) := by
  obtain ⟨u0, c0⟩ := hc 0 (by decide)
  obtain ⟨u1, c1⟩ := hc 1 (by decide)
  obtain ⟨u2, c2⟩ := hc 2 (by decide)
  obtain ⟨u3, c3⟩ := hc 3 (by decide)
  have f0 := hf 0 (by decide)
  have f1 := hf 1 (by decide)
  have f2 := hf 2 (by decide)
  have f3 := hf 3 (by decide)
  unfold Valid at hv
  by_cases h1 : c < 128
  · refine (enc_one b c (by omega) h1 w u0 c0 f0).mono ?_
    rintro e w' ⟨he, hw⟩
    have e1 : wd c = 1 := by unfold wd; rw [if_pos h1]
    refine ⟨by rw [he, e1]; rfl, ?_⟩
    rw [hw]; unfold enc1; rw [if_pos h1]
    simp only [bv, List.map_cons, List.map_nil, putCells, by8_val (show 0 ≤ c by omega) (by omega)]
  · by_cases h2 : c < 2048
    · refine (enc_two b c (by omega) h2 w u0 u1 c0 c1 f0 f1).mono ?_
      rintro e w' ⟨he, hw⟩
      have e1 : wd c = 2 := by unfold wd; rw [if_neg h1, if_pos h2]
      refine ⟨by rw [he, e1]; rfl, ?_⟩
      rw [hw]; unfold enc1; rw [if_neg h1, if_pos h2]
      simp only [bv, List.map_cons, List.map_nil, putCells, by8_val (show 0 ≤ 192 + c / 64 by omega) (by omega), by8_val (show 0 ≤ 128 + c % 64 by omega) (by omega)]
    · by_cases h3 : c < 65536
      · refine (enc_three b c (by omega) h3 (by omega) w u0 u1 u2 c0 c1 c2 f0 f1 f2).mono ?_
        rintro e w' ⟨he, hw⟩
        have e1 : wd c = 3 := by unfold wd; rw [if_neg h1, if_neg h2, if_pos h3]
        refine ⟨by rw [he, e1]; rfl, ?_⟩
        rw [hw]; unfold enc1; rw [if_neg h1, if_neg h2, if_pos h3]
        simp only [bv, List.map_cons, List.map_nil, putCells, by8_val (show 0 ≤ 224 + c / 4096 by omega) (by omega), by8_val (show 0 ≤ 128 + c / 64 % 64 by omega) (by omega), by8_val (show 0 ≤ 128 + c % 64 by omega) (by omega)]
      · refine (enc_four b c (by omega) (by omega) w u0 u1 u2 u3 c0 c1 c2 c3 f0 f1 f2 f3).mono ?_
        rintro e w' ⟨he, hw⟩
        have e1 : wd c = 4 := by unfold wd; rw [if_neg h1, if_neg h2, if_neg h3]
        refine ⟨by rw [he, e1]; rfl, ?_⟩
        rw [hw]; unfold enc1; rw [if_neg h1, if_neg h2, if_neg h3]
        simp only [bv, List.map_cons, List.map_nil, putCells, by8_val (show 0 ≤ 240 + c / 262144 by omega) (by omega), by8_val (show 0 ≤ 128 + c / 4096 % 64 by omega) (by omega), by8_val (show 0 ≤ 128 + c / 64 % 64 by omega) (by omega), by8_val (show 0 ≤ 128 + c % 64 by omega) (by omega)]
theorem putCells_heap (b : Nat) : ∀ (l : List Value) (i : Nat) (w : World) (k : Nat), k ≠ b → (putCells w b i l).heap[k]? = w.heap[k]? := by
  intro l
  induction l with
  | nil => intro i w k _; rfl
  | cons x l ih => intro i w k h; exact (ih (i + 1) _ k h).trans (Below.heap_setCell _ _ _ _ h)
theorem putCells_size (b : Nat) : ∀ (l : List Value) (i : Nat) (w : World), (putCells w b i l).heap.size = w.heap.size := by
  intro l
  induction l with
  | nil => intro i w; rfl
  | cons x l ih => intro i w; exact (ih (i + 1) _).trans (by simp [World.setCell])
theorem putCells_rest (b : Nat) : ∀ (l : List Value) (i : Nat) (w : World), (putCells w b i l).os = w.os ∧ (putCells w b i l).tape = w.tape ∧ (putCells w b i l).output = w.output := by
  intro l
  induction l with
  | nil => intro i w; exact ⟨rfl, rfl, rfl⟩
  | cons x l ih => intro i w; exact ih (i + 1) _
theorem putCells_low (b : Nat) : ∀ (l : List Value) (i : Nat) (w : World) (o : Nat), o < i → (putCells w b i l).cell? ⟨b, o, none⟩ = w.cell? ⟨b, o, none⟩ := by
  intro l
  induction l with
  | nil => intro i w o _; rfl
  | cons x l ih => intro i w o h; exact (ih (i + 1) _ o (by omega)).trans (World.cell?_setCell_other _ _ _ _ (by intro e; injection e with _ e2; omega))
theorem putCells_cell (b : Nat) : ∀ (l : List Value) (i : Nat) (w : World), (∀ j, j < l.length → ∃ u, w.cell? ⟨b, i + j, none⟩ = some u) → ∀ j x, l[j]? = some x → (putCells w b i l).cell? ⟨b, i + j, none⟩ = some x := by
  intro l
  induction l with
  | nil => intro i w _ j x h; simp at h
  | cons y l ih =>
    intro i w hc j x h
    cases j with
    | zero =>
      simp at h; subst h
      obtain ⟨u, hu⟩ := hc 0 (by simp)
      exact (putCells_low b l (i + 1) _ i (by omega)).trans (World.cell?_setCell_same _ _ _ hu)
    | succ j =>
      have := ih (i + 1) (w.setCell ⟨b, i, none⟩ y) (fun k hk => by
        obtain ⟨u, hu⟩ := hc (k + 1) (by simpa using hk)
        refine ⟨u, ?_⟩
        rw [show i + 1 + k = i + (k + 1) by omega]
        exact (World.cell?_setCell_other _ _ _ _ (by intro e; injection e with _ e2; omega)).trans hu) j x (by simpa using h)
      rw [show i + (j + 1) = i + 1 + j by omega]
      exact this
theorem below_putNew (w : World) (o : Obj) (l : List Value) : Below w.heap.size w (putCells (w.alloc o) w.heap.size 0 l) := by
  obtain ⟨h1, h2, h3⟩ := putCells_rest w.heap.size l 0 (w.alloc o)
  exact ⟨h1, h2, h3, by rw [putCells_size]; simp, fun k hk => (putCells_heap _ _ _ _ _ (by omega)).trans (Below.heap_alloc _ _ _ hk)⟩
theorem St.grow {B g : Nat} {mini asc : Bool} {bs : List UInt8} {w w' : World} (h : St B g mini asc bs w) (hb : Below w.heap.size w w') : St B g mini asc bs w' := by
  obtain ⟨⟨v, hp, ho⟩, hB⟩ := h
  refine ⟨⟨v, hp.same (hb.block g hp.lt), ?_⟩, Nat.le_trans hB hb.size⟩
  obtain ⟨h1, h2⟩ := ho
  refine ⟨h1, ?_⟩
  rcases h2 with h2 | ⟨q, cap, cur, hv, hg, hh, r⟩
  · exact Or.inl h2
  · exact Or.inr ⟨q, cap, cur, hv, hg, by rw [hb.block q (Array.getElem?_eq_some_iff.1 hh).1]; exact hh, r⟩
theorem Put.of_below {B g : Nat} {mini asc : Bool} {bs bs' : List UInt8} {w w1 w' : World} (hs : St B g mini asc bs w) (hb : Below w.heap.size w w1) (h : Put B g mini asc bs' w1 w') : Put B g mini asc bs' w w' :=
  ⟨h.st, (Ke.of_below hb hs.base).trans h.ke⟩
end Go.Proofs.YtkfdcbdlcipmfaaGreatFmt
namespace Go.Proofs
open Go.Extern.Stop Go.Stop Go.Extern Go.Kit
theorem Tryz.call106 (args : Array Value) (w : World) : (callFunc 106 args).run Tryz.prog w = ((FmtStop.sprintf #[9, 434] #[9] args).run Tryz.prog w).andThen fun v w' => .ok (.value v) w' :=
  run_callFunc_extern Tryz.func106 (by kernel_rfl) (by kernel_rfl) (by kernel_rfl) (by kernel_rfl) args w
@[go_sem] theorem Tryz.guardx (name : String) (w : World) : (FmtStop.guard name).run Tryz.prog w = .ok () w := by kernel_rfl
@[go_sem] theorem Tryz.fmt1 : FmtStop.printed? ⟨#[92, 37, 120]⟩ 1 = some [(0, 120, false)] := by kernel_rfl
@[go_sem] theorem Tryz.fmt1r (w : World) : (FmtDoors.printed ⟨#[92, 37, 120]⟩ 1).run Tryz.prog w = .ok [(0, 120, false)] w := by kernel_rfl
theorem Tryz.name21 : Tryz.prog.typeName? 21 21 = some "int32" := by kernel_rfl
def Tryz.shape21 : List UInt8 := [4, 5, 0, 0, 0, 0, 0, 0, 0, 105, 110, 116, 51, 50]
@[go_sem] theorem Tryz.op21_120 (name : String) (x : Int) (w : World) : (FmtStop.operand name false 120 false (.iface 21 (.int .i32 x))).run Tryz.prog w = .ok (Tryz.shape21, Go.Extern.Stop.digits 8 (x % 2 ^ 64).toNat) w := by kernel_rfl
namespace YtkfdcbdlcipmfaaGreatFmt
open Css
def hexAsk (c : Int) : List (List UInt8) := [[92, 37, 120], Tryz.shape21, Go.Extern.Stop.digits 8 (c % 18446744073709551616).toNat]
theorem hex_parse : (FmtText.parse [92, 37, 120]).map FmtText.glue = some [.lit [92], .verb {} 120] := by rfl
theorem digit_hexDig (d : Nat) (h : d < 16) : FmtText.digit false d = by8 (hexDig d) := by
  have key : ∀ d : Fin 16, FmtText.digit false d.val = by8 (hexDig d.val) := by decide
  exact key ⟨d, h⟩
theorem hexDig_low (d : Nat) (h : d < 16) : hexDig d < 128 := by unfold hexDig; split <;> omega
theorem enc1_hexDig (d : Nat) (h : d < 16) : enc1 (hexDig d) = [by8 (hexDig d)] := by unfold enc1; rw [if_pos (hexDig_low d h)]
theorem numeral_hexs (fuel : Nat) : ∀ (n : Nat) (acc : List UInt8), 0 < fuel → n < 16 ^ fuel → FmtText.digitsFrom 16 false fuel n acc = enc (hexsN n) ++ acc := by
  induction fuel with
  | zero => intro n acc h0 h; omega
  | succ f ih =>
    intro n acc h0 h
    unfold FmtText.digitsFrom
    rw [hexsN]
    by_cases hn : n < 16
    · rw [if_pos hn, dif_pos hn, digit_hexDig n hn, enc_cons, enc1_hexDig n hn]; simp
    · have hf : 0 < f := by
        rcases Nat.eq_zero_or_pos f with h1 | h1
        · subst h1; simp at h; omega
        · exact h1
      rw [if_neg hn, dif_neg hn, ih (n / 16) _ hf (by rw [Nat.pow_succ] at h; omega), enc_append, digit_hexDig (n % 16) (Nat.mod_lt _ (by decide)), enc_cons, enc1_hexDig _ (Nat.mod_lt _ (by decide))]
      simp
theorem hex_text (c : Int) (h0 : 0 ≤ c) (h1 : c < 2147483648) : FmtText.text "fmt.Sprintf" (hexAsk c) = some (92 :: enc (hexs c)) := by
  have hw : (Lit.int .i32 c).wf = true := by
    have e1 : IntKind.i32.min = -2147483648 := by decide
    have e2 : IntKind.i32.max = 2147483647 := by decide
    simp only [Lit.wf, e1, e2, Bool.and_eq_true, decide_eq_true_eq]
    omega
  have hi := FmtText.operand_int_at (sh := Tryz.shape21) (k := .i32) rfl rfl c hw
  rw [hexAsk, FmtText.text_sprintf_glued hex_parse (FmtText.operands_cons hi FmtText.operands_nil)]
  have e := FmtText.printArg_x false [105, 110, 116, 51, 50] hw
  have e2 : FmtText.inBase 16 false c = enc (hexs c) := by
    unfold FmtText.inBase
    rw [if_neg (by omega), FmtText.numeral, numeral_hexs 64 _ _ (by decide) (by omega)]
    simp [hexs]
  rw [e2] at e
  simp [FmtText.render, e]
theorem hex_said (F : Interp) (c : Int) (h0 : 0 ≤ c) (h1 : c < 1114112) : (FmtStop.textOf (F.told "fmt.Sprintf" (hexAsk c) 0)).data.toList = 92 :: enc (hexs c) := by
  rw [textOf_list]
  refine told_string F (hex_text c h0 (by omega)) ?_
  have h2 : (hexs c).length ≤ 6 := hexsN_len 5 c.toNat (by omega)
  have h3 : (enc (hexs c)).length ≤ 24 := by
    have key : ∀ l : List Int, (enc l).length ≤ 4 * l.length := by
      intro l
      induction l with
      | nil => simp
      | cons d l ih => rw [enc_length_cons]; have := (wd_pos d).2; simp; omega
    have := key (hexs c); omega
  simp; omega
def hexT (F : Interp) (c : Int) : ByteArray := FmtStop.textOf (F.told "fmt.Sprintf" (hexAsk c) 0)
open Go.RowKit in
set_option maxHeartbeats 400000 in
set_option maxRecDepth 100000 in
theorem sprintf_run (F : Interp) (c : Int) (w : World) (b : Nat) (hb : b = w.heap.size) (hF : F.told.answers w.tape) :
    (callFunc 106 #[.string ⟨#[92, 37, 120]⟩, .slice (some ⟨b, 0, none⟩) 1 1]).run Tryz.prog (w.alloc (.cells #[.iface 21 (.int .i32 c)] 20)) = .ok (.value (.string (hexT F c))) (w.alloc (.cells #[.iface 21 (.int .i32 c)] 20)).drew := by
  subst hb
  have hF' := answers_open hF
  rw [Tryz.call106]
  go_simp
  rfl
end YtkfdcbdlcipmfaaGreatFmt
end Go.Proofs
namespace Go.Proofs
open Go.Shelf
def Tryz.lays159_ren : Go.Shelf.Ren := ⟨fun | 159 => 136 | 165 => 122 | 166 => 123 | 167 => 134 | 169 => 124 | 230 => 154 | 204 => 155 | 240 => 145 | 241 => 146 | 197 => 100 | 118 => 116 | 168 => 160 | 270 => 161 | 262 => 162 | 276 => 158 | 277 => 159 | 260 => 131 | 242 => 164 | 313 => 165 | 278 => 166 | 274 => 149 | 275 => 150 | n => n, fun | 9 => 9 | 4 => 4 | 3 => 3 | 5 => 5 | 72 => 321 | 0 => 0 | 76 => 325 | 75 => 324 | 107 => 339 | 70 => 319 | 20 => 20 | 37 => 117 | 127 => 374 | 21 => 21 | 105 => 264 | 164 => 391 | 162 => 387 | 203 => 401 | 119 => 377 | 46 => 167 | 139 => 380 | 138 => 379 | 51 => 102 | 160 => 385 | 208 => 397 | 206 => 395 | 80 => 147 | n => n, fun | 13 => 5 | 3 => 1 | 4 => 2 | n => n⟩
theorem Tryz.lays159 : Go.Proofs.Lays.n159 Tryz.prog Tryz.lays159_ren := {
  mixed := by kernel_rfl
  f118 := Tryz.func116.trans (congrArg some (by kernel_rfl))
  f159 := Tryz.func136.trans (congrArg some (by kernel_rfl))
  f165 := Tryz.func122.trans (congrArg some (by kernel_rfl))
  f166 := Tryz.func123.trans (congrArg some (by kernel_rfl))
  f167 := Tryz.func134.trans (congrArg some (by kernel_rfl))
  f168 := Tryz.func160.trans (congrArg some (by kernel_rfl))
  f169 := Tryz.func124.trans (congrArg some (by kernel_rfl))
  f197 := Tryz.func100.trans (congrArg some (by kernel_rfl))
  f204 := Tryz.func155.trans (congrArg some (by kernel_rfl))
  f230 := Tryz.func154.trans (congrArg some (by kernel_rfl))
  f240 := Tryz.func145.trans (congrArg some (by kernel_rfl))
  f241 := Tryz.func146.trans (congrArg some (by kernel_rfl))
  f242 := Tryz.func164.trans (congrArg some (by kernel_rfl))
  f260 := Tryz.func131.trans (congrArg some (by kernel_rfl))
  f262 := Tryz.func162.trans (congrArg some (by kernel_rfl))
  f270 := Tryz.func161.trans (congrArg some (by kernel_rfl))
  f274 := Tryz.func149.trans (congrArg some (by kernel_rfl))
  f275 := Tryz.func150.trans (congrArg some (by kernel_rfl))
  f276 := Tryz.func158.trans (congrArg some (by kernel_rfl))
  f277 := Tryz.func159.trans (congrArg some (by kernel_rfl))
  f278 := Tryz.func166.trans (congrArg some (by kernel_rfl))
  f313 := Tryz.func165.trans (congrArg some (by kernel_rfl))
  t0 := Tryz.underlying0
  a0 := Tryz.isAgg0
  z0 := Tryz.sizeOf0
  v0 := Tryz.zeroValue0
  t3 := Tryz.underlying3
  a3 := Tryz.isAgg3
  z3 := Tryz.sizeOf3
  v3 := Tryz.zeroValue3
  t4 := Tryz.underlying4
  a4 := Tryz.isAgg4
  z4 := Tryz.sizeOf4
  v4 := Tryz.zeroValue4
  t5 := Tryz.underlying5
  a5 := Tryz.isAgg5
  z5 := Tryz.sizeOf5
  v5 := Tryz.zeroValue5
  t9 := Tryz.underlying9
  a9 := Tryz.isAgg9
  z9 := Tryz.sizeOf9
  v9 := Tryz.zeroValue9
  t20 := Tryz.underlying20
  a20 := Tryz.isAgg20
  z20 := Tryz.sizeOf20
  v20 := Tryz.zeroValue20
  t21 := Tryz.underlying21
  a21 := Tryz.isAgg21
  z21 := Tryz.sizeOf21
  v21 := Tryz.zeroValue21
  t37 := Tryz.underlying117
  a37 := Tryz.isAgg117
  z37 := Tryz.sizeOf117
  v37 := Tryz.zeroValue117
  t46 := Tryz.underlying167
  a46 := Tryz.isAgg167
  z46 := Tryz.sizeOf167
  v46 := Tryz.zeroValue167
  t51 := Tryz.underlying102
  a51 := Tryz.isAgg102
  z51 := Tryz.sizeOf102
  v51 := Tryz.zeroValue102
  t70 := Tryz.underlying319
  a70 := Tryz.isAgg319
  z70 := Tryz.sizeOf319
  v70 := Tryz.zeroValue319
  t72 := Tryz.underlying321
  a72 := Tryz.isAgg321
  z72 := Tryz.sizeOf321
  v72 := Tryz.zeroValue321
  t75 := Tryz.underlying324
  a75 := Tryz.isAgg324
  z75 := Tryz.sizeOf324
  v75 := Tryz.zeroValue324
  t76 := Tryz.underlying325
  a76 := Tryz.isAgg325
  z76 := Tryz.sizeOf325
  v76 := Tryz.zeroValue325
  t105 := Tryz.underlying264
  a105 := Tryz.isAgg264
  z105 := Tryz.sizeOf264
  v105 := Tryz.zeroValue264
  t107 := Tryz.underlying339
  a107 := Tryz.isAgg339
  z107 := Tryz.sizeOf339
  v107 := Tryz.zeroValue339
  t119 := Tryz.underlying377
  a119 := Tryz.isAgg377
  z119 := Tryz.sizeOf377
  t127 := Tryz.underlying374
  a127 := Tryz.isAgg374
  z127 := Tryz.sizeOf374
  v127 := Tryz.zeroValue374
  t138 := Tryz.underlying379
  a138 := Tryz.isAgg379
  z138 := Tryz.sizeOf379
  v138 := Tryz.zeroValue379
  t139 := Tryz.underlying380
  a139 := Tryz.isAgg380
  z139 := Tryz.sizeOf380
  v139 := Tryz.zeroValue380
  t160 := Tryz.underlying385
  a160 := Tryz.isAgg385
  z160 := Tryz.sizeOf385
  v160 := Tryz.zeroValue385
  t162 := Tryz.underlying387
  a162 := Tryz.isAgg387
  z162 := Tryz.sizeOf387
  v162 := Tryz.zeroValue387
  t164 := Tryz.underlying391
  a164 := Tryz.isAgg391
  z164 := Tryz.sizeOf391
  v164 := Tryz.zeroValue391
  t203 := Tryz.underlying401
  a203 := Tryz.isAgg401
  z203 := Tryz.sizeOf401
  v203 := Tryz.zeroValue401
  t206 := Tryz.underlying395
  a206 := Tryz.isAgg395
  z206 := Tryz.sizeOf395
  v206 := Tryz.zeroValue395
  t208 := Tryz.underlying397
  a208 := Tryz.isAgg397
  z208 := Tryz.sizeOf397
  v208 := Tryz.zeroValue397
  g3 := by kernel_rfl
  g4 := by kernel_rfl
  g13 := by kernel_rfl }
theorem Tryz.Builder_Extra_159 : Builder.Extra Tryz.prog Tryz.lays159_ren := {
  sizeBuilder := by kernel_rfl
  liesBuilder := by kernel_rfl
  t5 := Tryz.underlying5
  a5 := Tryz.isAgg5
  z5 := Tryz.sizeOf5
  v5 := Tryz.zeroValue5
  infoByte := by kernel_rfl
  cellsByte := by kernel_rfl
  sizeByte := by kernel_rfl
  neB5 := by decide }
def Tryz.lays118_ren : Go.Shelf.Ren := ⟨fun | 118 => 116 | n => n, fun | 21 => 21 | 3 => 3 | 4 => 4 | n => n, fun | n => n⟩
theorem Tryz.lays118 : Go.Proofs.Lays.n118 Tryz.prog Tryz.lays118_ren := {
  mixed := by kernel_rfl
  f118 := Tryz.func116.trans (congrArg some (by kernel_rfl))
  t3 := Tryz.underlying3
  a3 := Tryz.isAgg3
  z3 := Tryz.sizeOf3
  v3 := Tryz.zeroValue3
  t4 := Tryz.underlying4
  a4 := Tryz.isAgg4
  z4 := Tryz.sizeOf4
  v4 := Tryz.zeroValue4
  t21 := Tryz.underlying21
  a21 := Tryz.isAgg21
  z21 := Tryz.sizeOf21
  v21 := Tryz.zeroValue21 }
theorem Tryz.utf8_RuneLen (r : Int) (w : World) :
    Calls Tryz.prog 116 #[.int .i32 r] w fun e w' => e = .returned (.int .i64 (Lib.runeLen r)) ∧ w' = w := Any.utf8_RuneLen Tryz.lays118 r w
def Tryz.lays197_ren : Go.Shelf.Ren := ⟨fun | 197 => 100 | 260 => 131 | n => n, fun | 9 => 9 | 21 => 21 | 3 => 3 | 4 => 4 | 5 => 5 | 105 => 264 | 119 => 377 | 0 => 0 | 46 => 167 | 139 => 380 | 138 => 379 | n => n, fun | 3 => 1 | 4 => 2 | n => n⟩
theorem Tryz.lays197 : Go.Proofs.Lays.n197 Tryz.prog Tryz.lays197_ren := {
  mixed := by kernel_rfl
  f197 := Tryz.func100.trans (congrArg some (by kernel_rfl))
  f260 := Tryz.func131.trans (congrArg some (by kernel_rfl))
  t0 := Tryz.underlying0
  a0 := Tryz.isAgg0
  z0 := Tryz.sizeOf0
  v0 := Tryz.zeroValue0
  t3 := Tryz.underlying3
  a3 := Tryz.isAgg3
  z3 := Tryz.sizeOf3
  v3 := Tryz.zeroValue3
  t4 := Tryz.underlying4
  a4 := Tryz.isAgg4
  z4 := Tryz.sizeOf4
  v4 := Tryz.zeroValue4
  t5 := Tryz.underlying5
  a5 := Tryz.isAgg5
  z5 := Tryz.sizeOf5
  v5 := Tryz.zeroValue5
  t9 := Tryz.underlying9
  a9 := Tryz.isAgg9
  z9 := Tryz.sizeOf9
  v9 := Tryz.zeroValue9
  t21 := Tryz.underlying21
  a21 := Tryz.isAgg21
  z21 := Tryz.sizeOf21
  v21 := Tryz.zeroValue21
  t46 := Tryz.underlying167
  a46 := Tryz.isAgg167
  z46 := Tryz.sizeOf167
  v46 := Tryz.zeroValue167
  t105 := Tryz.underlying264
  a105 := Tryz.isAgg264
  z105 := Tryz.sizeOf264
  v105 := Tryz.zeroValue264
  t119 := Tryz.underlying377
  a119 := Tryz.isAgg377
  z119 := Tryz.sizeOf377
  t138 := Tryz.underlying379
  a138 := Tryz.isAgg379
  z138 := Tryz.sizeOf379
  v138 := Tryz.zeroValue379
  t139 := Tryz.underlying380
  a139 := Tryz.isAgg380
  z139 := Tryz.sizeOf380
  v139 := Tryz.zeroValue380
  g3 := by kernel_rfl
  g4 := by kernel_rfl }
open Go.RowKit Go.Lib in
theorem Tryz.utf8_DecodeRuneInString (s : ByteArray) (w : World) (hT : Lib.Utf8Tabs 1 2 w) :
    Calls Tryz.prog 100 #[.string s] w fun e w' => e = .returned (.tuple #[.int .i32 (Lib.decodeGo s).1, .int .i64 (Lib.decodeGo s).2]) ∧ Below w.heap.size w w' := Any.utf8_DecodeRuneInString Tryz.lays197 s w hT
open Go.RowKit Go.Lib in
theorem Tryz.strings_ToLower_any (s : ByteArray) (w : World) (hs : s.size < 35184372088832) (hV : CaseVar 5 caseA w) (hT : Lib.Utf8Tabs 1 2 w) :
    Calls Tryz.prog 136 #[.string s] w fun e w' => e = .returned (.string ⟨(Lib.toLowerD s.data.toList).toArray⟩) ∧ Below w.heap.size w w' := Any.strings_ToLower_any Tryz.lays159 Tryz.Builder_Extra_159 s w hs hV hT
end Go.Proofs
namespace Go.Proofs.YtkfdcbdlcipmfaaGreatFmt
open Go.RowKit Css
open Go.Extern.Stop Go.Stop Go.Extern
theorem tmp_cell (w : World) (j : Nat) (hj : j < 4) : ∃ u, (w.alloc (.cells #[.int .u8 0, .int .u8 0, .int .u8 0, .int .u8 0] 340)).cell? ⟨w.heap.size, j, none⟩ = some u := by
  refine ⟨.int .u8 0, ?_⟩
  match j, hj with
  | 0, _ => exact World.cell?_alloc_new w _ _ 0
  | 1, _ => exact World.cell?_alloc_new w _ _ 1
  | 2, _ => exact World.cell?_alloc_new w _ _ 2
  | 3, _ => exact World.cell?_alloc_new w _ _ 3
theorem tmp_free (w : World) (j : Nat) (hj : j < 4) : (w.alloc (.cells #[.int .u8 0, .int .u8 0, .int .u8 0, .int .u8 0] 340)).frozen? ⟨w.heap.size, j, none⟩ = false := World.frozen?_alloc_new w _ _ j
theorem bv_one (l : List UInt8) : ∀ u ∈ bv l, u.oneCell' = true := by
  intro u hu
  simp only [bv, List.mem_map] at hu
  obtain ⟨b, _, rfl⟩ := hu
  rfl
set_option maxHeartbeats 400000 in
set_option maxRecDepth 100000 in
theorem pwe_none (B g : Nat) (mini asc : Bool) (c : Int) (hv : Valid c) (s : ByteArray) (may : Bool) (w : World) (bs : List UInt8) (hs : St B g mini asc bs w) (hl : bs.length + 16 ≤ 140737488355328) :
    Calls Tryz.prog 103 #[.pointer (some ⟨g, 0, none⟩), .int .i32 c, .int .u8 0, .string s, .bool may] w fun e w' => e = .returned (.tuple #[]) ∧ Put B g mini asc (bs ++ enc1 c) w w' := by
  have HS := Lib.hid hs
  clear hs
  have HV := Lib.hid hv
  clear hv
  obtain ⟨i5, hi, hz0, hz1, hz2⟩ := info_parts5
  have HI := Lib.hid hi
  have HZ0 := Lib.hid hz0
  have HZ1 := Lib.hid hz1
  have HZ2 := Lib.hid hz2
  clear hi hz0 hz1 hz2
  go_enter Tryz.func103, Tryz.ntmps103
  go_wp2_with ((go_at_call 133; refine (encode_any _ _ HV.out _ ?_ ?_).mono ?_; (intro j hj; exact tmp_cell w j hj); (intro j hj; exact tmp_free w j hj); rintro e w2 ⟨rfl, hw2⟩; have HW := Lib.hid hw2; clear hw2))
  have HB : Hid (Below w.heap.size w w2) := by rw [HW.out]; exact below_putNew _ _ _
  have HC : Hid (∀ j x, (bv (enc1 c))[j]? = some x → w2.cell? ⟨w.heap.size, j, none⟩ = some x) := by
    intro j x hx
    rw [HW.out]
    have := putCells_cell w.heap.size (bv (enc1 c)) 0 (w.alloc (.cells #[.int .u8 0, .int .u8 0, .int .u8 0, .int .u8 0] 340)) (fun k hk => by rw [Nat.zero_add]; exact tmp_cell w k (by rw [bv_length, enc1_length] at hk; have := (wd_pos c).2; omega)) j x hx
    rwa [Nat.zero_add] at this
  have HS2 := Lib.hid (HS.out.grow HB.out)
  obtain ⟨⟨v, hp, ho⟩, hB⟩ := HS2.out
  have hc := hp.css
  have hf := hp.free
  have Hp := Lib.hid hp
  clear hp
  have Ho := Lib.hid ho
  clear ho
  have hwd := (wd_pos c).2
  have hwd0 := (wd_pos c).1
  have hwd2 : (wd c : Int) ≤ 4 := by omega
  have hwd3 : 0 ≤ (wd c : Int) := by omega
  have HP1 : Hid (PR B g mini asc v w2.drew) := Hp.out.same rfl
  have HO1 : Hid (w2.drew.ownsRow B 5 1 v bs.length (bv bs)) := Ho.out
  have HC1 : Hid (∀ j u, (bv (enc1 c))[j]? = some u → w2.drew.cell? ((⟨w.heap.size, 0, none⟩ : Addr).add j) = some u) := fun j u h => by
    have : ((⟨w.heap.size, 0, none⟩ : Addr).add j) = ⟨w.heap.size, j, none⟩ := by unfold Addr.add; split <;> simp_all
    rw [this]; exact HC.out j u h
  have HN1 : Hid ((bv (enc1 c)).length = wd c * 1) := by show (bv (enc1 c)).length = wd c * 1; rw [bv_length, enc1_length, Nat.mul_one]
  have HU1 : Hid (∀ u ∈ bv (enc1 c), u.oneCell' = true) := bv_one _
  go_region_law (refine step_append_lies _ rfl _ _ 117 rfl B 5 i5 (.int .u8 0) 1 1 Tryz.underlying117 HI.out HZ0.out HZ1.out HZ2.out rfl (by decide) v bs.length (bv bs) rfl HO1.out ⟨w.heap.size, 0, none⟩ (wd c) 4 (bv (enc1 c)) rfl HN1.out HC1.out HU1.out (by omega) (by unfold maxLen; omega) (by omega) (by simp; omega) w2.heap.size rfl ?_; intro q cap w3 hown hg hq hlt; have hg1 : Hid (w2.drew.grownBy w3 v.ownBlock) := hg; clear hg hq hlt; have hp1 := PR.grown HP1.out HO1.out hg1.out; have hc1 := hp1.css; have hf1 := hp1.free; clear hp1; have Hown := Lib.hid hown; clear hown)
  go_wp2
  go_end0
  refine ⟨rfl, Put.of_below HS.out HB.out ?_⟩
  have := put_of_store (s := enc1 c) (n := bs.length + wd c) HP1.out HO1.out (by simpa using hB) hg1.out Hown.out (by rw [enc1_length])
  exact ⟨this.st, this.ke.1, this.ke.2, this.ke.3, this.ke.4, this.ke.5, this.ke.6⟩
end Go.Proofs.YtkfdcbdlcipmfaaGreatFmt
namespace Go.Proofs.YtkfdcbdlcipmfaaGreatFmt
open Go.RowKit Css
open Go.Extern.Stop Go.Stop Go.Extern
abbrev tmpO : Obj := .cells #[.int .u8 0, .int .u8 0, .int .u8 0, .int .u8 0] 340
theorem tmp_notb (w : World) : ¬ IsBytes (w.alloc tmpO).heap[w.heap.size]? := by
  rintro ⟨cs, fr, h⟩
  have e : (w.alloc tmpO).heap[w.heap.size]? = some tmpO := by
    show (w.heap.push tmpO)[w.heap.size]? = _
    simp
  rw [e] at h
  injection h with h
  injection h with _ h _
  exact absurd h (by decide)
theorem tmp_same {B g : Nat} {w W1 : World} (hk : Ke B g (w.alloc tmpO) W1) (hg : g < w.heap.size) : W1.heap[w.heap.size]? = (w.alloc tmpO).heap[w.heap.size]? :=
  hk.block w.heap.size (by simp) (by omega) (tmp_notb w)
theorem tmp_after {B g : Nat} {w W1 : World} (hk : Ke B g (w.alloc tmpO) W1) (hg : g < w.heap.size) : (∀ j, j < 4 → ∃ u, W1.cell? ⟨w.heap.size, j, none⟩ = some u) ∧ (∀ j, j < 4 → W1.frozen? ⟨w.heap.size, j, none⟩ = false) := by
  have e := tmp_same hk hg
  refine ⟨fun j hj => ?_, fun j hj => ?_⟩
  · obtain ⟨u, hu⟩ := tmp_cell w j hj
    exact ⟨u, (World.cell?_of_block (w := w.alloc tmpO) (a := ⟨w.heap.size, j, none⟩) e).trans hu⟩
  · exact (World.frozen?_of_block (w := w.alloc tmpO) (a := ⟨w.heap.size, j, none⟩) e).trans (tmp_free w j hj)
theorem Ke.alloc_start {B g : Nat} {w w' : World} {o : Obj} (hB : B ≤ w.heap.size) (h : Ke B g (w.alloc o) w') : Ke B g w w' := ((Ke.refl B g w).alloc hB o).trans h
theorem Put.putNew {B g : Nat} {mini asc : Bool} {bs : List UInt8} {w W1 : World} {b : Nat} (h : Put B g mini asc bs w W1) (hb : w.heap.size ≤ b) (hB : B ≤ w.heap.size) (hg : g < w.heap.size) (hn : ¬ IsBytes W1.heap[b]?) (l : List Value) : Put B g mini asc bs w (putCells W1 b 0 l) := by
  obtain ⟨h1, h2, h3⟩ := putCells_rest b l 0 W1
  have hh := putCells_heap b l 0 W1
  have hz := putCells_size b l 0 W1
  obtain ⟨⟨⟨v, hp, ho⟩, hB1⟩, hk⟩ := h
  have hk2 : Ke B g w (putCells W1 b 0 l) := ⟨h1.trans hk.os, h2.trans hk.tape, h3.trans hk.output, by rw [hz]; exact hk.size, fun i hi => (hh i (by omega)).trans (hk.low i hi), fun i hi hne hnb => (hh i (by omega)).trans (hk.block i hi hne hnb)⟩
  refine ⟨⟨⟨v, hp.same (hh g (by omega)), ?_⟩, by rw [hz]; exact hB1⟩, hk2⟩
  obtain ⟨o1, o2⟩ := ho
  refine ⟨o1, ?_⟩
  rcases o2 with o2 | ⟨q, cap, cur, hv, hq, hx, r⟩
  · exact Or.inl o2
  · refine Or.inr ⟨q, cap, cur, hv, hq, ?_, r⟩
    rw [hh q (by rintro rfl; exact hn ⟨cur, (0, 0), hx⟩)]; exact hx
theorem PR.alloc {B g : Nat} {mini asc : Bool} {css : Value} {w : World} (h : PR B g mini asc css w) (o : Obj) : PR B g mini asc css (w.alloc o) := h.same (Below.heap_alloc _ _ _ h.lt)
structure At (B g : Nat) (mini asc : Bool) (bs : List UInt8) (v : Value) (w : World) : Prop where
  pr : PR B g mini asc v w
  own : w.ownsRow B 5 1 v bs.length (bv bs)
  base : B ≤ w.heap.size
theorem At.st {B g : Nat} {mini asc : Bool} {bs : List UInt8} {v : Value} {w : World} (h : At B g mini asc bs v w) : St B g mini asc bs w := ⟨⟨v, h.pr, h.own⟩, h.base⟩
theorem St.at_ {B g : Nat} {mini asc : Bool} {bs : List UInt8} {w : World} (h : St B g mini asc bs w) : ∃ v, At B g mini asc bs v w := by
  obtain ⟨⟨v, h1, h2⟩, h3⟩ := h
  exact ⟨v, h1, h2, h3⟩
theorem At.alloc {B g : Nat} {mini asc : Bool} {bs : List UInt8} {v : Value} {w : World} (h : At B g mini asc bs v w) (o : Obj) : At B g mini asc bs v (w.alloc o) := ⟨h.pr.alloc o, h.own.alloc o, by have := h.base; simp; omega⟩
theorem At.drew {B g : Nat} {mini asc : Bool} {bs : List UInt8} {v : Value} {w : World} (h : At B g mini asc bs v w) : At B g mini asc bs v w.drew := ⟨h.pr.same rfl, h.own, h.base⟩
theorem at_of_store {B g : Nat} {mini asc : Bool} {bs : List UInt8} {w w1 : World} {v v1 : Value} {s : List UInt8} {n : Nat} (h : At B g mini asc bs v w)
    (hg : w.grownBy w1 v.ownBlock) (hown : w1.ownsRow B 5 1 v1 n (bv bs ++ bv s)) (hn : n = bs.length + s.length) : At B g mini asc (bs ++ s) v1 (w1.setCell ⟨g, 15, none⟩ v1) ∧ Ke B g w (w1.setCell ⟨g, 15, none⟩ v1) := by
  subst hn
  have hp1 := PR.grown h.pr h.own hg
  have hk := (Ke.refl B g w).grown hg h.own h.base
  refine ⟨⟨hp1.store _, ?_, ?_⟩, hk.setG hp1.base _ _⟩
  · have := own_store hp1 hown (u := v1)
    rw [bv_append, List.length_append]
    exact this
  · have := hk.size
    have := h.base
    simp [World.setCell]; omega
theorem Ke.of_drew {B g : Nat} {w w' : World} (h : Ke B g w.drew w') : Ke B g w w' := ⟨h.1, h.2, h.3, h.4, h.5, h.6⟩
section
variable {ops : Array Oper} {rest : List Oper} {o : Oper} {a : Act} {Q : Exit → Act → World → Prop}
theorem wpList_put1 (hgd : o.guard = none) (s x : Operand) (ho : o.op = .call { callee := .builtin .append, args := #[s, x], argTypes := #[117, 117] })
    {B g : Nat} {mini asc : Bool} {bs : List UInt8} {v : Value} {w : World} (H : At B g mini asc bs v w) (c : UInt8)
    (hs : a.eval s = v) (b : Nat) (hx : a.eval x = .slice (some ⟨b, 0, none⟩) 1 1) (hb : b = w.heap.size) (n : Nat) (hn : n = bs.length + 1) (hl : bs.length + 1 ≤ 140737488355328)
    (h : ∀ q cap w', PR B g mini asc v w' → At B g mini asc (bs ++ [c]) (.slice (some ⟨q, 0, none⟩) n cap) (w'.setCell ⟨g, 15, none⟩ (.slice (some ⟨q, 0, none⟩) n cap)) → Ke B g w (w'.setCell ⟨g, 15, none⟩ (.slice (some ⟨q, 0, none⟩) n cap)) → wpList Tryz.prog ops Q rest (a.put o.dst (.slice (some ⟨q, 0, none⟩) n cap)) w') :
    wpList Tryz.prog ops Q (o :: rest) a (w.alloc (.cells #[.int .u8 c.toNat] 5)) := by
  subst hb; subst hn
  obtain ⟨i5, hi, hz0, hz1, hz2⟩ := info_parts5
  have H1 := H.alloc (.cells #[.int .u8 c.toNat] 5)
  refine wpList_append_lies _ hgd s x 117 ho B 5 i5 (.int .u8 0) 1 1 Tryz.underlying117 hi hz0 hz1 hz2 rfl (by decide) v bs.length (bv bs) hs H1.own ⟨w.heap.size, 0, none⟩ 1 1 (bv [c]) hx rfl ?_ (bv_one _) (by decide) (by unfold maxLen; omega) (by omega) H1.base _ rfl ?_
  · intro j u hj
    cases j with
    | zero =>
      simp [bv] at hj; subst hj
      have : ((⟨w.heap.size, 0, none⟩ : Addr).add 0) = ⟨w.heap.size, 0, none⟩ := by unfold Addr.add; split <;> simp_all
      rw [this]; exact World.cell?_alloc_new w _ _ 0
    | succ j => simp [bv] at hj
  · intro q cap w' h1 h2 _ _
    have := at_of_store (s := [c]) H1 h2 h1 rfl
    exact h q cap w' (H1.pr.grown H1.own h2) this.1 (Ke.alloc_start H.base this.2)
theorem wpList_puts (hgd : o.guard = none) (s x : Operand) (ho : o.op = .call { callee := .builtin .append, args := #[s, x], argTypes := #[117, 9] })
    {B g : Nat} {mini asc : Bool} {bs : List UInt8} {v : Value} {w : World} (H : At B g mini asc bs v w) (t : ByteArray)
    (hs : a.eval s = v) (hx : a.eval x = .string t) (n : Nat) (hn : n = bs.length + t.size) (hl : bs.length + t.size ≤ 140737488355328)
    (h : ∀ A cap w', PR B g mini asc v w' → At B g mini asc (bs ++ t.data.toList) (.slice A n cap) (w'.setCell ⟨g, 15, none⟩ (.slice A n cap)) → Ke B g w (w'.setCell ⟨g, 15, none⟩ (.slice A n cap)) → wpList Tryz.prog ops Q rest (a.put o.dst (.slice A n cap)) w') :
    wpList Tryz.prog ops Q (o :: rest) a w := by
  subst hn
  obtain ⟨i5, hi, hz0, hz1, hz2⟩ := info_parts5
  refine Lib.wpList_append_own_string _ hgd s x 117 9 ho B 5 i5 Tryz.underlying117 Tryz.underlying9 hi hz0 hz1 hz2 v bs.length (bv bs) hs H.own t hx (by unfold maxLen; omega) hl H.base ?_
  intro v' w' h1 h2 _
  obtain ⟨A, cap, rfl⟩ := own_slice h1
  have := at_of_store (s := t.data.toList) H h2 h1 rfl
  exact h A cap w' (H.pr.grown H.own h2) this.1 this.2
end
theorem step_put {ops : Array Oper} {o : Oper} {a : Act} {K : Act → World → Prop} {Q : Exit → Act → World → Prop} {E : Prop} (hgd : o.guard = none) (s x : Operand) (ho : o.op = .call { callee := .builtin .append, args := #[s, x], argTypes := #[117, 117] })
    {B g : Nat} {mini asc : Bool} {bs : List UInt8} {v : Value} {w : World} (H : At B g mini asc bs v w) (l : List UInt8) (m b : Nat) (hm : l.length = m) (h0 : 0 < m)
    (hc : ∀ j u, (bv l)[j]? = some u → w.cell? ⟨b, j, none⟩ = some u)
    (hs : a.eval s = v) (cx : Nat) (hx : a.eval x = .slice (some ⟨b, 0, none⟩) m cx) (n : Nat) (hn : n = bs.length + m) (hl : bs.length + m ≤ 140737488355328)
    (h : ∀ q cap w', PR B g mini asc v w' → At B g mini asc (bs ++ l) (.slice (some ⟨q, 0, none⟩) n cap) (w'.setCell ⟨g, 15, none⟩ (.slice (some ⟨q, 0, none⟩) n cap)) → Ke B g w (w'.setCell ⟨g, 15, none⟩ (.slice (some ⟨q, 0, none⟩) n cap)) → K (a.put o.dst (.slice (some ⟨q, 0, none⟩) n cap)) w') :
    if Region.wanted o (yielded ops a.tmps) = true then Oper.wp Tryz.prog o a w.drew K Q else E := by
  subst hn
  obtain ⟨i5, hi, hz0, hz1, hz2⟩ := info_parts5
  have H1 := H.drew
  refine step_append_lies _ hgd s x 117 ho B 5 i5 (.int .u8 0) 1 1 Tryz.underlying117 hi hz0 hz1 hz2 rfl (by decide) v bs.length (bv bs) hs H1.own ⟨b, 0, none⟩ m cx (bv l) hx (by rw [bv_length, hm, Nat.mul_one]) ?_ (bv_one _) h0 (by unfold maxLen; omega) (by omega) H1.base _ rfl ?_
  · intro j u hj
    have : ((⟨b, 0, none⟩ : Addr).add j) = ⟨b, j, none⟩ := by unfold Addr.add; split <;> simp_all
    rw [this]; exact hc j u hj
  · intro q cap w' h1 h2 _ _
    have := at_of_store (s := l) H1 h2 h1 (by rw [hm])
    exact h q cap w' (H1.pr.grown H1.own h2) this.1 (Ke.of_drew this.2)
theorem after_encode {B g : Nat} {mini asc : Bool} {bs : List UInt8} {w W1 w2 : World} (c : Int) (h : Put B g mini asc bs (w.alloc tmpO) W1) (hB : B ≤ w.heap.size) (hg : g < w.heap.size) (hw : w2 = putCells W1 w.heap.size 0 (bv (enc1 c))) :
    Put B g mini asc bs w w2 ∧ ∀ j x, (bv (enc1 c))[j]? = some x → w2.cell? ⟨w.heap.size, j, none⟩ = some x := by
  subst hw
  refine ⟨Put.putNew ⟨h.st, Ke.alloc_start hB h.ke⟩ (Nat.le_refl _) hB hg ?_ _, fun j x hx => ?_⟩
  · rw [tmp_same h.ke hg]; exact tmp_notb w
  · have := putCells_cell w.heap.size (bv (enc1 c)) 0 W1 (fun k hk => by rw [Nat.zero_add]; exact (tmp_after h.ke hg).1 k (by rw [bv_length, enc1_length] at hk; have := (wd_pos c).2; omega)) j x hx
    rwa [Nat.zero_add] at this
end Go.Proofs.YtkfdcbdlcipmfaaGreatFmt
namespace Go.Proofs.YtkfdcbdlcipmfaaGreatFmt
open Go.RowKit Css
def startsB (c : Int) : Bool := decide (starts c)
def contB (c : Int) : Bool := decide (cont c)
theorem startsB_t {c : Int} (h : starts c) : startsB c = true := by simp [startsB, h]
theorem startsB_f {c : Int} (h : ¬ starts c) : startsB c = false := by simp [startsB, h]
set_option maxHeartbeats 800000 in
set_option maxRecDepth 100000 in
theorem start_yes (c : Int) (hr : (97 ≤ c ∧ c ≤ 122) ∨ (65 ≤ c ∧ c ≤ 90) ∨ (95 ≤ c ∧ c ≤ 95) ∨ 128 ≤ c) (w : World) :
    Calls Tryz.prog 138 #[.int .i32 c] w fun e w' => e = .returned (.bool true) ∧ w = w' := by
  rcases hr with hr | hr | hr | hr
  all_goals
    go_enter Tryz.func138, Tryz.ntmps138
    go_wp2
    go_ret
    first | exact ⟨rfl, rfl⟩ | (simp; omega)
set_option maxHeartbeats 800000 in
set_option maxRecDepth 100000 in
theorem start_no (c : Int) (hr : (1 ≤ c ∧ c ≤ 64) ∨ (91 ≤ c ∧ c ≤ 94) ∨ (96 ≤ c ∧ c ≤ 96) ∨ (123 ≤ c ∧ c ≤ 127)) (w : World) :
    Calls Tryz.prog 138 #[.int .i32 c] w fun e w' => e = .returned (.bool false) ∧ w = w' := by
  rcases hr with hr | hr | hr | hr
  all_goals
    go_enter Tryz.func138, Tryz.ntmps138
    go_wp2
    go_ret
    first | exact ⟨rfl, rfl⟩ | (simp; omega)
theorem start_any (c : Int) (h1 : 1 ≤ c) (w : World) : Calls Tryz.prog 138 #[.int .i32 c] w fun e w' => e = .returned (.bool (startsB c)) ∧ w = w' := by
  by_cases h : starts c
  · rw [startsB_t h]; exact start_yes c (by unfold starts at h; omega) w
  · rw [startsB_f h]; exact start_no c (by unfold starts at h; omega) w
set_option maxHeartbeats 800000 in
set_option maxRecDepth 100000 in
theorem cont_low (c : Int) (h1 : 1 ≤ c) (w : World) : Calls Tryz.prog 115 #[.int .i32 c] w fun e w' => e = .returned (.bool (contB c)) ∧ w = w' := by
  have HC : Hid (1 ≤ c) := h1
  cases hs : startsB c
  · have hns : ¬ starts c := by simpa [startsB] using hs
    have HS := Lib.hid hs
    clear hs
    by_cases hd : 48 ≤ c ∧ c ≤ 57
    · have e : contB c = true := by unfold contB; simp; exact .inr (.inl hd)
      rw [e]
      obtain ⟨h3, h4⟩ := hd
      clear hns
      go_enter Tryz.func115, Tryz.ntmps115
      go_wp2_with (go_at_call 138; go_must (refine (start_any _ HC.out _).mono ?_; rintro e w' ⟨rfl, rfl⟩; rw [HS.out]))
      go_ret
      exact ⟨rfl, rfl⟩
    · by_cases hy : c = 45
      · subst hy
        have e : contB 45 = true := by decide
        rw [e]
        clear hns hd
        go_enter Tryz.func115, Tryz.ntmps115
        go_wp2_with (go_at_call 138; go_must (refine (start_any _ HC.out _).mono ?_; rintro e w' ⟨rfl, rfl⟩; rw [HS.out]))
        go_ret
        exact ⟨rfl, rfl⟩
      · have e : contB c = false := by unfold contB; simp only [decide_eq_false_iff_not]; rintro (h | h | h); exact hns h; exact hd h; exact hy h
        rw [e]
        have hy2 : (c == 45) = false := by simp [hy]
        have hr : c < 48 ∨ 57 < c := by omega
        clear hns hd hy
        rcases hr with hr | hr
        all_goals
          go_enter Tryz.func115, Tryz.ntmps115
          go_wp2_with (go_at_call 138; go_must (refine (start_any _ HC.out _).mono ?_; rintro e w' ⟨rfl, rfl⟩; rw [HS.out]))
          go_ret
          first | exact ⟨rfl, rfl⟩ | (refine ⟨?_, rfl⟩; simp; omega)
  · have hns : starts c := by simpa [startsB] using hs
    have HS := Lib.hid hs
    have e : contB c = true := by unfold contB; simp; exact .inl hns
    rw [e]
    clear hs hns
    go_enter Tryz.func115, Tryz.ntmps115
    go_wp2_with (go_at_call 138; go_must (refine (start_any _ HC.out _).mono ?_; rintro e w' ⟨rfl, rfl⟩; rw [HS.out]))
    go_ret
    exact ⟨rfl, rfl⟩
end Go.Proofs.YtkfdcbdlcipmfaaGreatFmt
