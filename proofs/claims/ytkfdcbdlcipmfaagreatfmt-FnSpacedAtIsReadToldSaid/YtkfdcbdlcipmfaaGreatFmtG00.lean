/- Words for the walks: the printer in memory. -/
import Derived.Test.YtkfdcbdlcipmfaaGreatFmtProg
import Derived.Below
import Derived.Deep.Draws
import Derived.Deep.AppendLies
import Derived.Maps.AppendAt
import Derived.OwnWalk
import Derived.Laws.BytesArg
import Derived.Laws.MakeOwn
import Derived.Laws.OwnMore
import Derived.Deep.OwnRows
import Derived.Tactics
import Derived.Lib.ConvBytes
import Derived.Laws.Slices
import Derived.WalkKit
import Derived.KernelRfl
import Derived.RowKit3
import Derived.Deep.LoopGhost
import Derived.Deep.QuietTactic
import Derived.BigQuiet
import Derived.WideLaws
import Derived.Deep.DeepCutAuto
import Derived.Deep.CutBlock
import Derived.Deep.RegionHeld3
import Derived.Laws.Rows
import Derived.Lib.AppendStr
import Derived.ArgAppend
import Derived.Laws.IdiomCopy
import Derived.OrdersHeld
import Derived.Laws.BitsLemmas
import Derived.RowKit
import Derived.Outline
import Derived.WalkSpells
import Derived.WalkLawsBesides
import Derived.Lib.Hide
set_option linter.unusedVariables false
set_option linter.unusedSimpArgs false
namespace Go.Proofs.YtkfdcbdlcipmfaaGreatFmt
open Go.RowKit

theorem info5 : (Tryz.prog.info? 5).map (fun i => (i.zero, i.size, i.bytes)) = some (some (.int .u8 0), 1, 1) := by kernel_rfl

/-- A block of bytes. -/
def IsBytes (o : Option Obj) : Prop := ∃ cs fr, o = some (.cells cs 5 fr)

/-- Of what was there: below B all as it was; from B on all but block g and blocks of bytes. -/
structure Ke (B g : Nat) (w w' : World) : Prop where
  os : w'.os = w.os
  tape : w'.tape = w.tape
  output : w'.output = w.output
  size : w.heap.size ≤ w'.heap.size
  low : ∀ i, i < B → w'.heap[i]? = w.heap[i]?
  block : ∀ i, i < w.heap.size → i ≠ g → ¬ IsBytes w.heap[i]? → w'.heap[i]? = w.heap[i]?

theorem Ke.refl (B g : Nat) (w : World) : Ke B g w w := ⟨rfl, rfl, rfl, Nat.le_refl _, fun _ _ => rfl, fun _ _ _ _ => rfl⟩
theorem Ke.trans {B g : Nat} {a b c : World} (h : Ke B g a b) (k : Ke B g b c) : Ke B g a c :=
  ⟨k.os.trans h.os, k.tape.trans h.tape, k.output.trans h.output, Nat.le_trans h.size k.size, fun i hi => (k.low i hi).trans (h.low i hi),
   fun i hi hg hb => by
    have e := h.block i hi hg hb
    exact (k.block i (Nat.lt_of_lt_of_le hi h.size) hg (by rw [e]; exact hb)).trans e⟩
theorem Ke.drew {B g : Nat} {a w : World} (h : Ke B g a w) : Ke B g a w.drew := ⟨h.os, h.tape, h.output, h.size, h.low, h.block⟩
theorem Ke.drewN {B g : Nat} {a w : World} (h : Ke B g a w) (n : Nat) : Ke B g a (w.drewN n) := ⟨h.os, h.tape, h.output, h.size, h.low, h.block⟩
theorem Ke.alloc {B g : Nat} {a w : World} (h : Ke B g a w) (hB : B ≤ w.heap.size) (o : Obj) : Ke B g a (w.alloc o) :=
  h.trans ⟨rfl, rfl, rfl, by simp, fun i hi => Below.heap_alloc _ _ _ (by omega), fun i hi _ _ => Below.heap_alloc _ _ _ hi⟩
theorem Ke.setG {B g : Nat} {a w : World} (h : Ke B g a w) (hB : B ≤ g) (o : Nat) (u : Value) : Ke B g a (w.setCell ⟨g, o, none⟩ u) :=
  h.trans ⟨rfl, rfl, rfl, by simp [World.setCell], fun i hi => Below.heap_setCell _ _ _ _ (by simp; omega), fun i hi hg _ => Below.heap_setCell _ _ _ _ (by simpa using hg)⟩
/-- A store into a block that is new since the world a. -/
theorem Ke.setNew {B g : Nat} {a w : World} (h : Ke B g a w) {p : Addr} (hp : a.heap.size ≤ p.block) (hB : B ≤ p.block) (u : Value) : Ke B g a (w.setCell p u) := by
  have e : ∀ i, i < a.heap.size → (w.setCell p u).heap[i]? = w.heap[i]? := fun i hi => Below.heap_setCell _ _ _ _ (by omega)
  exact ⟨h.os, h.tape, h.output, by have := h.size; simp [World.setCell]; omega, fun i hi => (Below.heap_setCell _ _ _ _ (by omega)).trans (h.low i hi), fun i hi hg hb => (e i hi).trans (h.block i hi hg hb)⟩
theorem Ke.grown {B g : Nat} {a w w' : World} {v : Value} {n : Nat} {xs : List Value} (h : Ke B g a w) (hg : w.grownBy w' v.ownBlock) (ho : w.ownsRow B 5 1 v n xs) (hB : B ≤ w.heap.size) : Ke B g a w' := by
  refine h.trans ⟨hg.os, hg.tape, hg.output, hg.size, fun i hi => hg.block i (by omega) ?_, fun i hi hne hb => hg.block i hi ?_⟩
  · rcases ho.2 with ⟨rfl, _⟩ | ⟨q, cap, cur, rfl, hq, hh, _⟩
    · simp [Value.ownBlock]
    · simp only [Value.ownBlock, ne_eq, Option.some.injEq]; omega
  · rcases ho.2 with ⟨rfl, _⟩ | ⟨q, cap, cur, rfl, hq, hh, _⟩
    · simp [Value.ownBlock]
    · simp only [Value.ownBlock, ne_eq, Option.some.injEq]
      rintro rfl
      exact hb ⟨cur, (0, 0), hh⟩
theorem Ke.of_below {B g : Nat} {w w' : World} (h : Below w.heap.size w w') (hB : B ≤ w.heap.size) : Ke B g w w' :=
  ⟨h.os, h.tape, h.output, h.size, fun i hi => h.block i (by omega), fun i hi _ _ => h.block i hi⟩
theorem Ke.cell {B g : Nat} {w w' : World} (h : Ke B g w w') {p : Addr} (hp : p.block < w.heap.size) (hg : p.block ≠ g) (hb : ¬ IsBytes w.heap[p.block]?) : w'.cell? p = w.cell? p := World.cell?_of_block (w := w) (h.block p.block hp hg hb)

/-- THE PRINTER IN MEMORY: the options that printing reads, and what has been printed. -/
structure PR (B g : Nat) (mini asc : Bool) (css : Value) (w : World) : Prop where
  lim : w.cell? ⟨g, 3, none⟩ = some (.int .i64 0)
  feat : w.cell? ⟨g, 5, none⟩ = some (.int .u16 0)
  mini : w.cell? ⟨g, 6, none⟩ = some (.bool mini)
  asc : w.cell? ⟨g, 7, none⟩ = some (.bool asc)
  maps : w.cell? ⟨g, 9, none⟩ = some (.bool false)
  legal : w.cell? ⟨g, 17, none⟩ = some (.slice none 0 0)
  metas : w.cell? ⟨g, 18, none⟩ = some (.slice none 0 0)
  css : w.cell? ⟨g, 15, none⟩ = some css
  free : w.frozen? ⟨g, 15, none⟩ = false
  base : B ≤ g
  notb : ¬ IsBytes w.heap[g]?

theorem PR.same {B g : Nat} {mini asc : Bool} {css : Value} {w w' : World} (h : PR B g mini asc css w) (hs : w'.heap[g]? = w.heap[g]?) : PR B g mini asc css w' := by
  have hc : ∀ o, w'.cell? ⟨g, o, none⟩ = w.cell? ⟨g, o, none⟩ := fun o => World.cell?_of_block (w := w) (a := ⟨g, o, none⟩) hs
  exact ⟨(hc _).trans h.lim, (hc _).trans h.feat, (hc _).trans h.mini, (hc _).trans h.asc, (hc _).trans h.maps, (hc _).trans h.legal, (hc _).trans h.metas, (hc _).trans h.css, (World.frozen?_of_block (w := w) (a := ⟨g, 15, none⟩) hs).trans h.free, h.base, by rw [hs]; exact h.notb⟩
theorem PR.lt {B g : Nat} {mini asc : Bool} {css : Value} {w : World} (h : PR B g mini asc css w) : g < w.heap.size := World.block_lt_of_cell? w _ h.lim

theorem own_not_g {B g : Nat} {mini asc : Bool} {css v : Value} {w : World} {n : Nat} {xs : List Value} (h : PR B g mini asc css w) (ho : w.ownsRow B 5 1 v n xs) : some g ≠ v.ownBlock := by
  rcases ho.2 with ⟨rfl, _⟩ | ⟨q, cap, cur, rfl, hq, hh, _⟩
  · simp [Value.ownBlock]
  · simp only [Value.ownBlock, ne_eq, Option.some.injEq]
    rintro rfl
    exact h.notb ⟨cur, (0, 0), hh⟩
theorem PR.grown {B g : Nat} {mini asc : Bool} {css v : Value} {w w1 : World} {n : Nat} {xs : List Value} (h : PR B g mini asc css w) (ho : w.ownsRow B 5 1 v n xs) (hg : w.grownBy w1 v.ownBlock) : PR B g mini asc css w1 :=
  h.same (hg.block g h.lt (own_not_g h ho))
theorem own_slice {w : World} {base n : Nat} {e : TypeId} {size : Nat} {v : Value} {xs : List Value} (h : w.ownsRow base e size v n xs) : ∃ A c, v = .slice A n c := by
  rcases h.2 with ⟨rfl, rfl⟩ | ⟨g, cap, cur, rfl, _⟩
  · exact ⟨none, 0, rfl⟩
  · exact ⟨_, cap, rfl⟩
theorem isBytes_setCell {w : World} {a : Addr} {v : Value} {i : Nat} : IsBytes (w.setCell a v).heap[i]? ↔ IsBytes w.heap[i]? := by
  unfold IsBytes
  simp only [World.setCell, Array.getElem?_modify]
  split
  · subst_vars
    cases h : w.heap[a.block]? with
    | none => simp
    | some o => cases o <;> simp
  · rfl
/-- The printer behind a store of what has been printed. -/
theorem PR.store {B g : Nat} {mini asc : Bool} {css : Value} {w : World} (h : PR B g mini asc css w) (v : Value) : PR B g mini asc v (w.setCell ⟨g, 15, none⟩ v) := by
  have hc : ∀ o x, o ≠ 15 → w.cell? ⟨g, o, none⟩ = some x → (w.setCell ⟨g, 15, none⟩ v).cell? ⟨g, o, none⟩ = some x := fun o x ho hx =>
    (World.cell?_setCell_other _ _ _ _ (by intro e; injection e with _ e2; omega)).trans hx
  exact ⟨hc _ _ (by decide) h.lim, hc _ _ (by decide) h.feat, hc _ _ (by decide) h.mini, hc _ _ (by decide) h.asc, hc _ _ (by decide) h.maps, hc _ _ (by decide) h.legal, hc _ _ (by decide) h.metas, World.cell?_setCell_same _ _ _ h.css, by rw [World.frozen?_setCell]; exact h.free, h.base, fun hb => h.notb (isBytes_setCell.1 hb)⟩
/-- What is owned stays owned while the printer's own block is written. -/
theorem own_store {B g : Nat} {mini asc : Bool} {css v u : Value} {w : World} {n : Nat} {xs : List Value} (h : PR B g mini asc css w) (ho : w.ownsRow B 5 1 v n xs) : (w.setCell ⟨g, 15, none⟩ u).ownsRow B 5 1 v n xs := by
  have hne := own_not_g h ho
  obtain ⟨h1, h2⟩ := ho
  refine ⟨h1, ?_⟩
  rcases h2 with h2 | ⟨q, cap, cur, hv, hg, hh, r⟩
  · exact Or.inl h2
  · refine Or.inr ⟨q, cap, cur, hv, hg, ?_, r⟩
    rw [Below.heap_setCell _ _ _ _ (by rw [hv] at hne; simp [Value.ownBlock] at hne; simp; omega)]; exact hh

/-- Bytes as cells. -/
def bv (l : List UInt8) : List Value := l.map fun b => Value.int .u8 b.toNat
theorem bv_length (l : List UInt8) : (bv l).length = l.length := by simp [bv]
theorem bv_append (a b : List UInt8) : bv (a ++ b) = bv a ++ bv b := by simp [bv]
/-- THE STATE: the printer at block g, its options, and the bytes that have been printed. -/
structure St (B g : Nat) (mini asc : Bool) (bs : List UInt8) (w : World) : Prop where
  out : ∃ v, PR B g mini asc v w ∧ w.ownsRow B 5 1 v bs.length (bv bs)
  base : B ≤ w.heap.size
theorem info_parts5 : ∃ i, Tryz.prog.info? 5 = some i ∧ i.zero = some (.int .u8 0) ∧ i.size = 1 ∧ i.bytes = 1 := by
  obtain ⟨i, hi, hz⟩ := Option.map_eq_some_iff.1 info5
  simp only [Prod.mk.injEq] at hz
  exact ⟨i, hi, hz.1, hz.2.1, hz.2.2⟩

end Go.Proofs.YtkfdcbdlcipmfaaGreatFmt
/- Walks: print. -/
set_option linter.unusedVariables false
set_option linter.unusedSimpArgs false
namespace Go.Proofs.YtkfdcbdlcipmfaaGreatFmt
open Go.RowKit

/-- What a function that prints does: it puts bytes behind those that are printed. -/
structure Put (B g : Nat) (mini asc : Bool) (bs : List UInt8) (w w' : World) : Prop where
  st : St B g mini asc bs w'
  ke : Ke B g w w'
theorem Put.trans {B g : Nat} {mini asc : Bool} {bs bs' : List UInt8} {a b c : World} (h : Put B g mini asc bs a b) (k : Put B g mini asc bs' b c) : Put B g mini asc bs' a c := ⟨k.st, h.ke.trans k.ke⟩

set_option maxHeartbeats 400000 in
set_option maxRecDepth 100000 in
theorem print_any (B g : Nat) (mini asc : Bool) (s : ByteArray) (w : World) (bs : List UInt8) (hs : St B g mini asc bs w) (hl : bs.length + s.size ≤ 140737488355328) :
    Calls Tryz.prog 75 #[.pointer (some ⟨g, 0, none⟩), .string s] w fun e w' => e = .returned (.tuple #[]) ∧ Put B g mini asc (bs ++ s.data.toList) w w' := by
  obtain ⟨⟨v, hp, ho⟩, hB⟩ := hs
  have hc := hp.css
  have hf := hp.free
  have Hp := Lib.hid hp
  clear hp
  have Ho := Lib.hid ho
  clear ho
  obtain ⟨i5, hi, hz0, hz1, hz2⟩ := info_parts5
  have HI := Lib.hid hi
  have HZ0 := Lib.hid hz0
  have HZ1 := Lib.hid hz1
  have HZ2 := Lib.hid hz2
  clear hi hz0 hz1 hz2
  go_enter Tryz.func75, Tryz.ntmps75
  go_wp2_with ((at_builtin; go_must (refine Lib.wpList_append_own_string _ rfl _ _ 117 9 rfl B 5 i5 Tryz.underlying117 Tryz.underlying9 HI.out HZ0.out HZ1.out HZ2.out _ _ _ rfl Ho.out s rfl ?c1 ?c2 ?c3 ?_; (case c1 => unfold maxLen; omega); (case c2 => omega); (case c3 => omega); intro v1 w1 hown hg _; obtain ⟨A1, c1, rfl⟩ := own_slice hown; have hg1 : Hid (w.grownBy w1 v.ownBlock) := hg; clear hg; have hp1 := PR.grown Hp.out Ho.out hg1.out; have hc1 := hp1.css; have hf1 := hp1.free; have Hp1 := Lib.hid hp1; clear hp1; have Hown := Lib.hid hown; clear hown)))
  go_end0
  have hown := Hown.out
  have hp1 := Hp1.out
  have hk := (Ke.refl B g w).grown hg1.out Ho.out hB
  refine ⟨rfl, ⟨⟨_, hp1.store _, ?_⟩, ?_⟩, hk.setG hp1.base _ _⟩
  · have := own_store hp1 hown (u := .slice A1 (bs.length + s.size) c1)
    rw [bv_append, List.length_append]
    simpa [bv, Lib.strCells] using this
  · have := hk.size
    simp [World.setCell]; omega

end Go.Proofs.YtkfdcbdlcipmfaaGreatFmt
/- Walks: printIndent. -/
set_option linter.unusedVariables false
set_option linter.unusedSimpArgs false
namespace Go.Proofs.YtkfdcbdlcipmfaaGreatFmt
open Go.RowKit

/-- Behind an append to what is printed, and its store. -/
theorem put_of_store {B g : Nat} {mini asc : Bool} {bs : List UInt8} {w w1 : World} {v v1 : Value} {s : List UInt8} {n : Nat} (hp : PR B g mini asc v w) (ho : w.ownsRow B 5 1 v bs.length (bv bs)) (hB : B ≤ w.heap.size)
    (hg : w.grownBy w1 v.ownBlock) (hown : w1.ownsRow B 5 1 v1 n (bv bs ++ bv s)) (hn : n = bs.length + s.length) : Put B g mini asc (bs ++ s) w (w1.setCell ⟨g, 15, none⟩ v1) := by
  subst hn
  have hp1 := PR.grown hp ho hg
  have hk := (Ke.refl B g w).grown hg ho hB
  refine ⟨⟨⟨_, hp1.store _, ?_⟩, ?_⟩, hk.setG hp1.base _ _⟩
  · have := own_store hp1 hown (u := v1)
    rw [bv_append, List.length_append]
    exact this
  · have := hk.size
    simp [World.setCell]; omega

theorem rep_succ (k : Nat) : List.replicate (2 * (k + 1)) (32 : UInt8) = List.replicate (2 * k) 32 ++ [32, 32] := by
  rw [show 2 * (k + 1) = 2 * k + 2 by omega, ← List.replicate_append_replicate]; rfl
set_option maxHeartbeats 400000 in
set_option maxRecDepth 100000 in
theorem printIndent_any (B g : Nat) (mini asc : Bool) (m : Nat) (hm : m ≤ 1000) (w : World) (bs : List UInt8) (hs : St B g mini asc bs w) (hl : bs.length + 2 * m ≤ 140737488355328) :
    Calls Tryz.prog 74 #[.pointer (some ⟨g, 0, none⟩), .int .i32 m] w fun e w' => e = .returned (.tuple #[]) ∧ Put B g mini asc (bs ++ List.replicate (2 * m) 32) w w' := by
  have HS := Lib.hid hs
  have hlim : w.cell? ⟨g, 3, none⟩ = some (.int .i64 0) := by obtain ⟨⟨v, hp, _⟩, _⟩ := hs; exact hp.lim
  clear hs
  obtain ⟨i5, hi, hz0, hz1, hz2⟩ := info_parts5
  have HI := Lib.hid hi
  have HZ0 := Lib.hid hz0
  have HZ1 := Lib.hid hz1
  have HZ2 := Lib.hid hz2
  clear hi hz0 hz1 hz2
  go_enter Tryz.func74, Tryz.ntmps74
  go_wp2
  go_loopw [5] (fun i wr => ∃ k : Nat, k ≤ m ∧ i = .int .i64 k ∧ Hid (Put B g mini asc (bs ++ List.replicate (2 * k) 32) w wr)) (fun i _ => m - (intOf i).toNat)
  case atStart => exact ⟨0, Nat.zero_le _, rfl, by simp; exact ⟨HS.out, Ke.refl _ _ _⟩⟩
  case round =>
    obtain ⟨k, hk, rfl, HP⟩ := hrel
    by_cases hlt : k < m
    · obtain ⟨⟨v, hp, ho⟩, hB⟩ := HP.out.st
      have hc := hp.css
      have hf := hp.free
      have Hp := Lib.hid hp
      clear hp
      have Ho := Lib.hid ho
      clear ho
      have hlen : (bs ++ List.replicate (2 * k) (32 : UInt8)).length = bs.length + 2 * k := by simp
      have HL := Lib.hid hlen
      clear hlen
      go_wp2_with ((at_builtin; go_must (refine Lib.wpList_append_own_string _ rfl _ _ 117 9 rfl B 5 i5 Tryz.underlying117 Tryz.underlying9 HI.out HZ0.out HZ1.out HZ2.out _ _ _ rfl Ho.out ⟨#[32, 32]⟩ rfl ?c1 ?c2 ?c3 ?_; (case c1 => rw [HL.out]; show _ + 2 ≤ _; unfold maxLen; omega); (case c2 => rw [HL.out]; show _ + 2 ≤ _; omega); (case c3 => omega); intro v1 w1 hown hg _; obtain ⟨A1, c1, rfl⟩ := own_slice hown; have hg1 : Hid (wr.grownBy w1 v.ownBlock) := hg; clear hg; have hp1 := PR.grown Hp.out Ho.out hg1.out; have hc1 := hp1.css; have hf1 := hp1.free; have Hp1 := Lib.hid hp1; clear hp1; have Hown := Lib.hid hown; clear hown)))
      go_roundw
      case rel => exact ⟨k + 1, by omega, by go_num, by
        have ho2 := Hown.out
        rw [HL.out] at ho2
        rw [rep_succ, ← List.append_assoc]
        exact HP.out.trans (put_of_store (s := [32, 32]) (n := bs.length + 2 * k + 2) Hp.out Ho.out hB hg1.out ho2 (by rw [HL.out]; rfl))⟩
      case measure => simp [intOf]; omega
    · obtain rfl : k = m := by omega
      go_wp2
      go_end0
      exact ⟨rfl, HP.out⟩
end Go.Proofs.YtkfdcbdlcipmfaaGreatFmt
/- PLAIN: CSS Syntax Level 3's tokens over code points, as the reference reads them. No program in sight. -/
namespace Go.Proofs.YtkfdcbdlcipmfaaGreatFmt
namespace Css

/-- The code point at a place; -1 behind the end. -/
def pk (ds : List Int) (k : Nat) : Int := ds.getD k (-1)

@[simp] theorem pk_nil (k : Nat) : pk [] k = -1 := by simp [pk]
@[simp] theorem pk_cons_zero (c : Int) (ds : List Int) : pk (c :: ds) 0 = c := by simp [pk]
@[simp] theorem pk_cons_succ (c : Int) (ds : List Int) (k : Nat) : pk (c :: ds) (k + 1) = pk ds k := by simp [pk]
@[simp] theorem pk_cons_one (c : Int) (ds : List Int) : pk (c :: ds) 1 = pk ds 0 := pk_cons_succ c ds 0
@[simp] theorem pk_cons_two (c : Int) (ds : List Int) : pk (c :: ds) 2 = pk ds 1 := pk_cons_succ c ds 1
@[simp] theorem pk_cons_three (c : Int) (ds : List Int) : pk (c :: ds) 3 = pk ds 2 := pk_cons_succ c ds 2

def isNl (c : Int) : Prop := c = 10 ∨ c = 13 ∨ c = 12
instance (c : Int) : Decidable (isNl c) := by unfold isNl; infer_instance
def isSp (c : Int) : Prop := isNl c ∨ c = 9 ∨ c = 32
instance (c : Int) : Decidable (isSp c) := by unfold isSp; infer_instance
def isDg (c : Int) : Prop := 48 ≤ c ∧ c ≤ 57
instance (c : Int) : Decidable (isDg c) := by unfold isDg; infer_instance
def starts (c : Int) : Prop := (97 ≤ c ∧ c ≤ 122) ∨ (65 ≤ c ∧ c ≤ 90) ∨ c = 95 ∨ 128 ≤ c
instance (c : Int) : Decidable (starts c) := by unfold starts; infer_instance
def cont (c : Int) : Prop := starts c ∨ isDg c ∨ c = 45
instance (c : Int) : Decidable (cont c) := by unfold cont; infer_instance
def esc (a b : Int) : Prop := a = 92 ∧ ¬ isNl b
instance (a b : Int) : Decidable (esc a b) := by unfold esc; infer_instance
def ident3 (a b c : Int) : Prop := (a = 45 ∧ (starts b ∨ b = 45 ∨ esc b c)) ∨ (a ≠ 45 ∧ (starts a ∨ esc a b))
instance (a b c : Int) : Decidable (ident3 a b c) := by unfold ident3; infer_instance
def num2 (a b : Int) : Prop := isDg a ∨ (a = 46 ∧ isDg b)
instance (a b : Int) : Decidable (num2 a b) := by unfold num2; infer_instance
def counts (a b c : Int) : Prop := ((a = 43 ∨ a = 45) ∧ num2 b c) ∨ (¬ (a = 43 ∨ a = 45) ∧ num2 a b)
instance (a b c : Int) : Decidable (counts a b c) := by unfold counts; infer_instance
/-- The value of a hexadecimal digit; -1: it is none. -/
def hexv (c : Int) : Int := if 48 ≤ c ∧ c ≤ 57 then c - 48 else if 97 ≤ c ∧ c ≤ 102 then c - 97 + 10 else if 65 ≤ c ∧ c ≤ 70 then c - 65 + 10 else -1
def isHex (c : Int) : Prop := (48 ≤ c ∧ c ≤ 57) ∨ (97 ≤ c ∧ c ≤ 102) ∨ (65 ≤ c ∧ c ≤ 70)
instance (c : Int) : Decidable (isHex c) := by unfold isHex; infer_instance
theorem hexv_hex {c : Int} : 0 ≤ hexv c ↔ isHex c := by unfold hexv isHex; split <;> (try split) <;> (try split) <;> omega
theorem hexv_neg {c : Int} : hexv c < 0 ↔ ¬ isHex c := by rw [← hexv_hex]; omega
def unpr (c : Int) : Prop := (0 ≤ c ∧ c ≤ 8) ∨ c = 11 ∨ (14 ≤ c ∧ c ≤ 31) ∨ c = 127
instance (c : Int) : Decidable (unpr c) := by unfold unpr; infer_instance

def hexRun : Nat → Int → List Int → Int × List Int
  | 0, v, ds => (v, ds)
  | n + 1, v, ds => if 0 ≤ hexv (pk ds 0) then hexRun n (v * 16 + hexv (pk ds 0)) ds.tail else (v, ds)

theorem hexRun_len (n : Nat) : ∀ (v : Int) (ds : List Int), (hexRun n v ds).2.length ≤ ds.length := by
  induction n with
  | zero => intro v ds; simp [hexRun]
  | succ n ih =>
    intro v ds
    unfold hexRun
    split
    · have := ih (v * 16 + hexv (pk ds 0)) ds.tail
      have h2 := List.length_tail (l := ds)
      omega
    · simp

/-- What stands behind the end of a line. -/
def newline (ds : List Int) : List Int := if pk ds 0 = 13 ∧ pk ds.tail 0 = 10 then ds.tail.tail else ds.tail
theorem newline_len (ds : List Int) : (newline ds).length ≤ ds.length - 1 := by
  unfold newline; split <;> simp <;> omega

def fixv (v : Int) : Int := if v = 0 ∨ v > 1114111 ∨ (55296 ≤ v ∧ v < 57344) then 65533 else v

/-- What an escape means behind its backslash; whether it is left open; what is left. -/
def escape (ds : List Int) : Int × Bool × List Int :=
  if hexv (pk ds 0) < 0 then
    if pk ds 0 = -1 then (65533, true, ds.tail) else (pk ds 0, false, ds.tail)
  else if isNl (pk (hexRun 6 0 ds).2 0) then (fixv (hexRun 6 0 ds).1, true, newline (hexRun 6 0 ds).2)
  else if isSp (pk (hexRun 6 0 ds).2 0) then (fixv (hexRun 6 0 ds).1, false, (hexRun 6 0 ds).2.tail)
  else (fixv (hexRun 6 0 ds).1, false, (hexRun 6 0 ds).2)

theorem escape_len (ds : List Int) : (escape ds).2.2.length ≤ ds.length := by
  have h1 := hexRun_len 6 0 ds
  have h2 := newline_len (hexRun 6 0 ds).2
  have h3 := List.length_tail (l := ds)
  have h4 := List.length_tail (l := (hexRun 6 0 ds).2)
  unfold escape
  repeat' split
  all_goals simp only []
  all_goals omega

theorem not_cont_end : ¬ cont (-1) := by unfold cont starts isDg; omega
theorem ne_nil_of_pk {ds : List Int} (h : pk ds 0 ≠ -1) : ds ≠ [] := by rintro rfl; simp at h
theorem len_of_pk {ds : List Int} (h : pk ds 0 ≠ -1) : 0 < ds.length := List.length_pos_iff.2 (ne_nil_of_pk h)
theorem pk_ne_of_cont {c : Int} (h : cont c) : c ≠ -1 := by rintro rfl; exact not_cont_end h

/-- A name: what it means; whether it is left open; what is left. -/
def name (ds : List Int) : List Int × Bool × List Int :=
  if _h : cont (pk ds 0) then (pk ds 0 :: (name ds.tail).1, (name ds.tail).2.1, (name ds.tail).2.2)
  else if _h2 : esc (pk ds 0) (pk ds 1) then
    ((escape ds.tail).1 :: (name (escape ds.tail).2.2).1, (escape ds.tail).2.1 || (name (escape ds.tail).2.2).2.1, (name (escape ds.tail).2.2).2.2)
  else ([], false, ds)
termination_by ds.length
decreasing_by
  all_goals
    first
    | (have := len_of_pk (pk_ne_of_cont _h); simp; omega)
    | (have h0 : 0 < ds.length := len_of_pk (by rw [_h2.1]; decide)
       have := escape_len ds.tail
       have h3 := List.length_tail (l := ds)
       omega)

def digits : List Int → List Int
  | [] => []
  | c :: ds => if isDg c then digits ds else c :: ds

structure Tk where
  kind : Int
  unit : Nat
  text : List Int
deriving DecidableEq

/-- The end of a number: whether it is left open; what is left. -/
def numDot (d1 : List Int) : List Int := if pk d1 0 = 46 ∧ isDg (pk d1 1) then digits d1.tail else d1
def numExp (d2 : List Int) : List Int :=
  if (pk d2 0 = 101 ∨ pk d2 0 = 69) ∧ (isDg (pk d2 1) ∨ ((pk d2 1 = 43 ∨ pk d2 1 = 45) ∧ isDg (pk d2 2))) then digits d2.tail.tail else d2
def numSign (ds : List Int) : List Int := if pk ds 0 = 43 ∨ pk ds 0 = 45 then ds.tail else ds
def numOpen (d1 : List Int) : Bool := decide (pk d1 0 = 46 ∧ ¬ isDg (pk d1 1))
def numEnd (ds : List Int) : Bool × List Int := (numOpen (digits (numSign ds)), numExp (numDot (digits (numSign ds))))

def numeric (ds : List Int) : Tk × Bool × List Int :=
  let e := numEnd ds
  if ident3 (pk e.2 0) (pk e.2 1) (pk e.2 2) then (⟨26, ds.length - e.2.length, []⟩, e.1 || (name e.2).2.1, (name e.2).2.2)
  else if pk e.2 0 = 37 then (⟨34, 0, []⟩, e.1, e.2.tail)
  else (⟨30, 0, []⟩, e.1, e.2)

def spaces : List Int → List Int
  | [] => []
  | c :: ds => if isSp c then spaces ds else c :: ds

theorem spaces_len (ds : List Int) : (spaces ds).length ≤ ds.length := by
  induction ds with
  | nil => simp [spaces]
  | cons c ds ih => unfold spaces; split <;> simp <;> omega

def badURL (ds : List Int) : Bool × List Int :=
  if pk ds 0 = 41 then (false, ds.tail)
  else if _h : pk ds 0 = -1 then (true, ds.tail)
  else if esc (pk ds 0) (pk ds.tail 0) then ((escape ds.tail).2.1 || (badURL (escape ds.tail).2.2).1, (badURL (escape ds.tail).2.2).2)
  else badURL ds.tail
termination_by ds.length
decreasing_by
  all_goals
    have h0 := len_of_pk _h
    have := escape_len ds.tail
    have h3 := List.length_tail (l := ds)
    omega

/-- An address: kind, text, open, what is left. -/
def url (ds : List Int) : Int × List Int × Bool × List Int :=
  if pk ds 0 = 41 then (37, [], false, ds.tail)
  else if _h : pk ds 0 = -1 then (37, [], true, ds)
  else if _hs : isSp (pk ds 0) then
    if pk (spaces ds) 0 ≠ 41 ∧ pk (spaces ds) 0 ≠ -1 then (3, [], (badURL (spaces ds)).1, (badURL (spaces ds)).2) else url (spaces ds)
  else if pk ds 0 = 34 ∨ pk ds 0 = 39 ∨ pk ds 0 = 40 ∨ unpr (pk ds 0) ∨ (pk ds 0 = 92 ∧ ¬ esc (pk ds 0) (pk ds 1)) then (3, [], (badURL ds).1, (badURL ds).2)
  else if pk ds 0 = 92 then
    let r := url (escape ds.tail).2.2
    (r.1, (if r.1 = 37 then (escape ds.tail).1 :: r.2.1 else []), (escape ds.tail).2.1 || r.2.2.1, r.2.2.2)
  else
    let r := url ds.tail
    (r.1, (if r.1 = 37 then pk ds 0 :: r.2.1 else []), r.2.2.1, r.2.2.2)
termination_by ds.length
decreasing_by
  · have h0 := len_of_pk _h
    match ds, _hs with
    | c :: t, hs =>
      have := spaces_len t
      unfold spaces
      rw [if_pos (by simpa using hs)]
      simp
      omega
  all_goals
    have h0 := len_of_pk _h
    have := escape_len ds.tail
    have h3 := List.length_tail (l := ds)
    omega

/-- A byte of a number. -/
def by8 (c : Int) : UInt8 := UInt8.ofNat (c % 256).toNat
/-- The bytes of a code point, as the reference writes them. -/
def enc1 (c : Int) : List UInt8 :=
  if c < 128 then [by8 c]
  else if c < 2048 then [by8 (192 + c / 64), by8 (128 + c % 64)]
  else if c < 65536 then [by8 (224 + c / 4096), by8 (128 + c / 64 % 64), by8 (128 + c % 64)]
  else [by8 (240 + c / 262144), by8 (128 + c / 4096 % 64), by8 (128 + c / 64 % 64), by8 (128 + c % 64)]
def enc (l : List Int) : List UInt8 := l.flatMap enc1
@[simp] theorem enc_nil : enc [] = [] := rfl
theorem enc_cons (c : Int) (l : List Int) : enc (c :: l) = enc1 c ++ enc l := rfl
theorem enc_append (a b : List Int) : enc (a ++ b) = enc a ++ enc b := by simp [enc]

def isUrlB (s : List UInt8) : Bool :=
  match s with
  | [a, b, c] => (a == 117 || a == 85) && (b == 114 || b == 82) && (c == 108 || c == 76)
  | _ => false
def spB (b : UInt8) : Bool := b == 10 || b == 13 || b == 12 || b == 9 || b == 32
def trimmedB (s : List UInt8) : Bool := s.isEmpty || (!spB (s.headD 0) && !spB (s.getLastD 0))

def named (ds : List Int) : Tk × Bool × List Int :=
  let n := name ds
  if pk n.2.2 0 ≠ 40 then (⟨29, 0, n.1⟩, n.2.1, n.2.2)
  else if isUrlB (enc n.1) = true ∧ pk (spaces n.2.2.tail) 0 ≠ 34 ∧ pk (spaces n.2.2.tail) 0 ≠ 39 then
    let u := url (spaces n.2.2.tail)
    (⟨u.1, 0, u.2.1⟩, n.2.1 || u.2.2.1 || decide (ds.length - n.2.2.length ≠ 3) || !trimmedB (enc u.2.1), u.2.2.2)
  else (⟨27, 0, n.1⟩, n.2.1, n.2.2.tail)

def quotedRun (q : Int) (ds : List Int) : Int × List Int × Bool × List Int :=
  if pk ds 0 = q then (36, [], false, ds.tail)
  else if _h : pk ds 0 = -1 then (36, [], true, ds)
  else if isNl (pk ds 0) then (2, [], false, ds)
  else if pk ds 0 = 92 ∧ pk ds 1 = -1 then quotedRun q ds.tail
  else if pk ds 0 = 92 ∧ isNl (pk ds 1) then quotedRun q (newline ds.tail)
  else if pk ds 0 = 92 then
    let r := quotedRun q (escape ds.tail).2.2
    (r.1, (if r.1 = 36 then (escape ds.tail).1 :: r.2.1 else []), (escape ds.tail).2.1 || r.2.2.1, r.2.2.2)
  else
    let r := quotedRun q ds.tail
    (r.1, (if r.1 = 36 then pk ds 0 :: r.2.1 else []), r.2.2.1, r.2.2.2)
termination_by ds.length
decreasing_by
  all_goals
    have h0 := len_of_pk _h
    have := escape_len ds.tail
    have h5 := newline_len ds.tail
    have h3 := List.length_tail (l := ds)
    omega

/-- What stands behind the end of a comment. -/
def comEnd (ds : List Int) : Bool × List Int :=
  if pk ds 0 = 42 ∧ pk ds 1 = 47 then (false, ds.tail.tail)
  else match ds with
    | [] => (true, [])
    | _ :: t => comEnd t
theorem comEnd_len (ds : List Int) : (comEnd ds).2.length ≤ ds.length := by
  induction ds with
  | nil => unfold comEnd; split <;> simp
  | cons c t ih => unfold comEnd; split <;> simp <;> omega
/-- Comments: how many; open; what is left. -/
def comments (ds : List Int) : Nat × Bool × List Int :=
  if _h : pk ds 0 = 47 ∧ pk ds 1 = 42 then
    if (comEnd ds.tail.tail).1 then (1, true, (comEnd ds.tail.tail).2)
    else ((comments (comEnd ds.tail.tail).2).1 + 1, (comments (comEnd ds.tail.tail).2).2.1, (comments (comEnd ds.tail.tail).2).2.2)
  else (0, false, ds)
termination_by ds.length
decreasing_by
  all_goals
    have h0 := len_of_pk (ds := ds) (by rw [_h.1]; decide)
    have := comEnd_len ds.tail.tail
    have h3 := List.length_tail (l := ds)
    have h4 := List.length_tail (l := ds.tail)
    omega

def signKind (c : Int) : Int :=
  if c = 123 then 31 else if c = 125 then 6 else if c = 91 then 32 else if c = 93 then 7 else if c = 40 then 33 else if c = 41 then 8
  else if c = 58 then 9 else if c = 59 then 35 else if c = 44 then 10 else if c = 38 then 12 else if c = 42 then 13 else if c = 124 then 14
  else if c = 94 then 15 else if c = 36 then 16 else if c = 46 then 17 else if c = 61 then 18 else if c = 33 then 19 else if c = 62 then 20
  else if c = 60 then 21 else if c = 45 then 22 else if c = 43 then 23 else if c = 47 then 24 else if c = 126 then 25 else 11

/-- The next token behind comments: it; open; what is left. -/
def next (ds : List Int) : Tk × Bool × List Int :=
  if pk ds 0 = -1 then (⟨0, 0, []⟩, false, ds)
  else if isSp (pk ds 0) then (⟨38, 0, []⟩, false, spaces ds)
  else if pk ds 0 = 34 ∨ pk ds 0 = 39 then
    let q := quotedRun (pk ds 0) ds.tail
    (⟨q.1, 0, q.2.1⟩, q.2.2.1, q.2.2.2)
  else if pk ds 0 = 35 ∧ (cont (pk ds 1) ∨ esc (pk ds 1) (pk ds 2)) then (⟨28, 0, (name ds.tail).1⟩, (name ds.tail).2.1, (name ds.tail).2.2)
  else if counts (pk ds 0) (pk ds 1) (pk ds 2) then numeric ds
  else if pk ds 0 = 45 ∧ pk ds 1 = 45 ∧ pk ds 2 = 62 then (⟨4, 0, []⟩, false, ds.tail.tail.tail)
  else if ident3 (pk ds 0) (pk ds 1) (pk ds 2) then named ds
  else if pk ds 0 = 60 ∧ pk ds 1 = 33 ∧ pk ds 2 = 45 ∧ pk ds 3 = 45 then (⟨5, 0, []⟩, false, ds.tail.tail.tail.tail)
  else if pk ds 0 = 64 ∧ ident3 (pk ds 1) (pk ds 2) (pk ds 3) then (⟨1, 0, (name ds.tail).1⟩, (name ds.tail).2.1, (name ds.tail).2.2)
  else (⟨signKind (pk ds 0), 0, []⟩, false, ds.tail)

theorem name_len (ds : List Int) : (name ds).2.2.length ≤ ds.length := by
  fun_induction name ds with
  | case1 ds h ih => simp only []; have := List.length_tail (l := ds); omega
  | case2 ds h h2 ih => simp only []; have := List.length_tail (l := ds); have := escape_len ds.tail; omega
  | case3 => simp
theorem digits_len (ds : List Int) : (digits ds).length ≤ ds.length := by
  induction ds with
  | nil => simp [digits]
  | cons c ds ih => unfold digits; split <;> simp <;> omega
theorem numEnd_len (ds : List Int) : (numEnd ds).2.length ≤ ds.length := by
  unfold numEnd numExp numDot numSign
  simp only []
  have a1 := digits_len ds
  have a2 := digits_len ds.tail
  have a3 := fun l : List Int => digits_len l.tail
  have a4 := fun l : List Int => digits_len l.tail.tail
  have a5 := fun l : List Int => List.length_tail (l := l)
  repeat' split
  all_goals (simp only [List.length_tail] at *)
  all_goals first
    | omega
    | (have := a3 (digits ds); have := a3 (digits ds.tail); have := a4 (digits ds); have := a4 (digits ds.tail); have := a4 (digits (digits ds).tail); have := a4 (digits (digits ds.tail).tail); omega)
theorem badURL_len (ds : List Int) : (badURL ds).2.length ≤ ds.length := by
  fun_induction badURL ds with
  | case1 ds h => simp
  | case2 ds h h2 => simp
  | case3 ds h h2 h3 ih => simp only []; have := List.length_tail (l := ds); have := escape_len ds.tail; omega
  | case4 ds h h2 h3 ih => have := List.length_tail (l := ds); omega
theorem url_len (ds : List Int) : (url ds).2.2.2.length ≤ ds.length := by
  fun_induction url ds with
  | case1 ds h => simp
  | case2 ds h h2 => simp
  | case3 ds h h2 h3 h4 => simp only []; have := badURL_len (spaces ds); have := spaces_len ds; omega
  | case4 ds h h2 h3 h4 ih => have := spaces_len ds; omega
  | case5 ds h h2 h3 h4 => simp only []; exact badURL_len ds
  | case6 ds h h2 h3 h4 h5 r ih => simp only [r]; have := List.length_tail (l := ds); have := escape_len ds.tail; omega
  | case7 ds h h2 h3 h4 h5 r ih => simp only [r]; have := List.length_tail (l := ds); omega
theorem quotedRun_len (q : Int) (ds : List Int) : (quotedRun q ds).2.2.2.length ≤ ds.length := by
  fun_induction quotedRun q ds with
  | case1 ds h => simp
  | case2 ds h h2 => simp
  | case3 ds h h2 h3 => simp
  | case4 ds h h2 h3 h4 ih => have := List.length_tail (l := ds); omega
  | case5 ds h h2 h3 h4 h5 ih => have := List.length_tail (l := ds); have := newline_len ds.tail; omega
  | case6 ds h h2 h3 h4 h5 h6 r ih => simp only [r]; have := List.length_tail (l := ds); have := escape_len ds.tail; omega
  | case7 ds h h2 h3 h4 h5 h6 r ih => simp only [r]; have := List.length_tail (l := ds); omega
theorem comments_len (ds : List Int) : (comments ds).2.2.length ≤ ds.length := by
  fun_induction comments ds with
  | case1 ds h h2 => simp only []; have := comEnd_len ds.tail.tail; have := List.length_tail (l := ds); have := List.length_tail (l := ds.tail); omega
  | case2 ds h h2 ih => simp only []; have := comEnd_len ds.tail.tail; have := List.length_tail (l := ds); have := List.length_tail (l := ds.tail); omega
  | case3 => simp
end Css
end Go.Proofs.YtkfdcbdlcipmfaaGreatFmt
/- PLAIN: the tokens of a text; that each one takes something. No program in sight. -/
namespace Go.Proofs.YtkfdcbdlcipmfaaGreatFmt
namespace Css

theorem isDg_of_num2 {a b : Int} (h : num2 a b) : a ≠ -1 := by unfold num2 isDg at h; omega
theorem digits_lt {ds : List Int} (h : isDg (pk ds 0)) : (digits ds).length < ds.length := by
  cases ds with
  | nil => simp [isDg] at h
  | cons c t => unfold digits; rw [if_pos (by simpa using h)]; have := digits_len t; simp; omega
theorem numDot_len (ds : List Int) : (numDot ds).length ≤ ds.length := by
  unfold numDot; split
  · have := digits_len ds.tail; have := List.length_tail (l := ds); omega
  · omega
theorem numExp_len (ds : List Int) : (numExp ds).length ≤ ds.length := by
  unfold numExp; split
  · have := digits_len ds.tail.tail; have := List.length_tail (l := ds); have := List.length_tail (l := ds.tail); omega
  · omega
theorem num2_lt {ds : List Int} (h : num2 (pk ds 0) (pk ds 1)) : (numDot (digits ds)).length < ds.length := by
  rcases h with h | ⟨h, h2⟩
  · have := digits_lt h; have := numDot_len (digits ds); omega
  · cases ds with
    | nil => simp at h
    | cons c t =>
      simp at h h2
      have hd : digits (c :: t) = c :: t := by unfold digits; rw [if_neg (by unfold isDg; omega)]
      rw [hd]; unfold numDot
      rw [if_pos (by simp [h, h2])]
      have := digits_lt (ds := t) h2
      simp; omega
theorem numEnd_lt {ds : List Int} (h : counts (pk ds 0) (pk ds 1) (pk ds 2)) : (numEnd ds).2.length < ds.length := by
  unfold numEnd; simp only []
  have h1 := numExp_len (numDot (digits (numSign ds)))
  rcases h with ⟨h, h2⟩ | ⟨h, h2⟩
  · have hs : numSign ds = ds.tail := by unfold numSign; rw [if_pos h]
    cases ds with
    | nil => simp at h
    | cons c t =>
      have := num2_lt (ds := t) (by simpa using h2)
      rw [hs] at h1 ⊢; simp at h1 ⊢; omega
  · have hs : numSign ds = ds := by unfold numSign; rw [if_neg h]
    have := num2_lt h2
    rw [hs] at h1 ⊢; omega
theorem numeric_lt {ds : List Int} (h : counts (pk ds 0) (pk ds 1) (pk ds 2)) : (numeric ds).2.2.length < ds.length := by
  have h1 := numEnd_lt h
  unfold numeric; simp only []
  split
  · have := name_len (numEnd ds).2; simp only []; omega
  · split
    · simp; omega
    · exact h1
theorem name_lt {ds : List Int} (h : cont (pk ds 0) ∨ esc (pk ds 0) (pk ds 1)) : (name ds).2.2.length < ds.length := by
  have h0 : 0 < ds.length := len_of_pk (by rcases h with h | h; exact pk_ne_of_cont h; rw [h.1]; decide)
  have ht := List.length_tail (l := ds)
  unfold name
  split
  · have := name_len ds.tail; simp only []; omega
  · rename_i h1
    have h2 : esc (pk ds 0) (pk ds 1) := by rcases h with h | h; exact absurd h h1; exact h
    rw [dif_pos h2]
    have := name_len (escape ds.tail).2.2; have := escape_len ds.tail
    simp only []; omega
theorem cont_of_ident3 {a b c : Int} (h : ident3 a b c) : cont a ∨ esc a b := by
  unfold ident3 at h; unfold cont
  rcases h with ⟨h, _⟩ | ⟨_, h | h⟩
  · exact .inl (.inr (.inr h))
  · exact .inl (.inl h)
  · exact .inr h
theorem named_lt {ds : List Int} (h : ident3 (pk ds 0) (pk ds 1) (pk ds 2)) : (named ds).2.2.length < ds.length := by
  have h1 := name_lt (cont_of_ident3 h)
  unfold named; simp only []
  split
  · exact h1
  · split
    · simp only []
      have := url_len (spaces (name ds).2.2.tail); have := spaces_len (name ds).2.2.tail
      have := List.length_tail (l := (name ds).2.2); omega
    · have := List.length_tail (l := (name ds).2.2); simp only []; omega
theorem next_lt {ds : List Int} (h : pk ds 0 ≠ -1) : (next ds).2.2.length < ds.length := by
  have h0 := len_of_pk h
  have ht := List.length_tail (l := ds)
  unfold next
  rw [if_neg h]
  split
  · rename_i hs
    cases ds with
    | nil => simp at h
    | cons c t => simp only []; unfold spaces; rw [if_pos (by simpa using hs)]; have := spaces_len t; simp; omega
  split
  · simp only []; have := quotedRun_len (pk ds 0) ds.tail; omega
  split
  · simp only []; have := name_len ds.tail; omega
  split
  · exact numeric_lt ‹_›
  split
  · simp; omega
  split
  · exact named_lt ‹_›
  split
  · simp; omega
  split
  · simp only []; have := name_len ds.tail; omega
  · simp only []; omega

/-- The tokens of a text: each with what it is of the text; how many comments; open. -/
def tokens (ds : List Int) : List (Tk × List Int × List Int) × Nat × Bool :=
  if _h : pk (comments ds).2.2 0 = -1 then ([], (comments ds).1, (comments ds).2.1)
  else
    let ds' := (comments ds).2.2
    ((( next ds').1, ds', (next ds').2.2) :: (tokens (next ds').2.2).1, (comments ds).1 + (tokens (next ds').2.2).2.1, (comments ds).2.1 || (next ds').2.1 || (tokens (next ds').2.2).2.2)
termination_by ds.length
decreasing_by
  all_goals
    have h1 := next_lt _h
    have h2 := comments_len ds
    omega

/-- A token's own part of the text, out of what stood ahead of it and what is left. -/
def part (a b : List Int) : List Int := a.take (a.length - b.length)
theorem part_append (a b : List Int) : part (a ++ b) b = a := by unfold part; simp

end Css
end Go.Proofs.YtkfdcbdlcipmfaaGreatFmt
/- PLAIN: a name that is printed with escapes is read as this name. No program in sight. -/
namespace Go.Proofs.YtkfdcbdlcipmfaaGreatFmt
namespace Css

/-- A code point that a text may hold. -/
def Valid (c : Int) : Prop := 1 ≤ c ∧ c ≤ 1114111 ∧ ¬ (55296 ≤ c ∧ c < 57344)
instance (c : Int) : Decidable (Valid c) := by unfold Valid; infer_instance

def hexDig (d : Int) : Int := if d < 10 then 48 + d else 87 + d
def hexsN (n : Nat) : List Int := if _h : n < 16 then [hexDig n] else hexsN (n / 16) ++ [hexDig (n % 16 : Nat)]
termination_by n
decreasing_by omega
def hexs (c : Int) : List Int := hexsN c.toNat

theorem hexDig_hex (d : Nat) (h : d < 16) : isHex (hexDig d) ∧ hexv (hexDig d) = d := by
  unfold hexDig isHex hexv
  repeat' split
  all_goals omega
theorem hexsN_hex (n : Nat) : ∀ d ∈ hexsN n, isHex d := by
  fun_induction hexsN n with
  | case1 n h => intro d hd; simp at hd; subst hd; exact (hexDig_hex n h).1
  | case2 n h ih =>
    intro d hd
    simp only [List.mem_append, List.mem_singleton] at hd
    rcases hd with hd | rfl
    · exact ih d hd
    · exact (hexDig_hex _ (Nat.mod_lt _ (by decide))).1
theorem hexsN_val (n : Nat) : (hexsN n).foldl (fun a d => a * 16 + hexv d) 0 = (n : Int) := by
  fun_induction hexsN n with
  | case1 n h => simp [(hexDig_hex n h).2]
  | case2 n h ih =>
    rw [List.foldl_append, ih]
    simp only [List.foldl_cons, List.foldl_nil]
    rw [(hexDig_hex _ (Nat.mod_lt _ (by decide))).2]
    omega
theorem hexsN_ne (n : Nat) : hexsN n ≠ [] := by
  unfold hexsN; split <;> simp
theorem hexsN_len (k : Nat) : ∀ n, n < 16 ^ (k + 1) → (hexsN n).length ≤ k + 1 := by
  induction k with
  | zero => intro n h; unfold hexsN; rw [dif_pos (by simpa using h)]; simp
  | succ k ih =>
    intro n h
    unfold hexsN
    split
    · simp
    · have := ih (n / 16) (by rw [Nat.pow_succ] at h; omega)
      simp; omega

theorem hexRun_append (hs : List Int) : ∀ (n : Nat) (v : Int) (r : List Int), (∀ d ∈ hs, isHex d) → hs.length ≤ n →
    hexRun n v (hs ++ r) = hexRun (n - hs.length) (hs.foldl (fun a d => a * 16 + hexv d) v) r := by
  induction hs with
  | nil => intro n v r _ _; simp
  | cons d hs ih =>
    intro n v r h hl
    obtain ⟨m, rfl⟩ : ∃ m, n = m + 1 := ⟨n - 1, by simp at hl; omega⟩
    have hd : 0 ≤ hexv d := hexv_hex.2 (h d (by simp))
    simp only [List.cons_append, hexRun, pk_cons_zero, List.tail_cons]
    rw [if_pos hd, ih m _ r (fun x hx => h x (by simp [hx])) (by simp at hl; omega)]
    simp only [List.foldl_cons, List.length_cons]
    congr 1; omega
theorem hexRun_stop (n : Nat) (v : Int) (r : List Int) (h : ¬ isHex (pk r 0)) : hexRun n v r = (v, r) := by
  cases n with
  | zero => rfl
  | succ n => unfold hexRun; rw [if_neg (by rw [hexv_hex]; exact h)]

theorem isSp_not_hex {c : Int} (h : isSp c) : ¬ isHex c := by unfold isSp isNl at h; unfold isHex; omega
theorem hexs_small {c : Int} (h1 : c < 1048576) : (hexs c).length ≤ 5 := hexsN_len 4 c.toNat (by omega)
theorem fixv_valid {c : Int} (h : Valid c) : fixv c = c := by unfold Valid at h; unfold fixv; rw [if_neg (by omega)]

theorem pk_append_left {a b : List Int} {k : Nat} (h : k < a.length) : pk (a ++ b) k = pk a k := by
  unfold pk; simp [List.getD_eq_getElem?_getD, List.getElem?_append_left h]
theorem pk_append_right {a b : List Int} {k : Nat} (h : a.length ≤ k) : pk (a ++ b) k = pk b (k - a.length) := by
  unfold pk; simp [List.getD_eq_getElem?_getD, List.getElem?_append_right h]
theorem pk_mem {a : List Int} {k : Nat} (h : k < a.length) : pk a k ∈ a := by
  unfold pk; simp [List.getD_eq_getElem?_getD, List.getElem?_eq_getElem h]

theorem hexs_first (c : Int) (r : List Int) : isHex (pk (hexs c ++ r) 0) := by
  have hne := hexsN_ne c.toNat
  have h0 : 0 < (hexs c).length := List.length_pos_iff.2 hne
  rw [pk_append_left h0]
  exact hexsN_hex _ _ (pk_mem h0)

/-- A hexadecimal escape, with the blank that ends it or without, is read as its code point. -/
theorem escape_hexs {c : Int} (hv : Valid c) (hc : c < 1048576) (sp : Bool) (r : List Int) (h : sp = true ∨ (¬ isHex (pk r 0) ∧ ¬ isSp (pk r 0))) :
    escape (hexs c ++ ((if sp then [32] else []) ++ r)) = (c, false, r) := by
  have hf := hexs_first c ((if sp then [32] else []) ++ r)
  have hl := hexs_small hc
  have hstop : ¬ isHex (pk ((if sp then [32] else []) ++ r) 0) := by
    cases sp with
    | true => simp [isHex]
    | false => simpa using (h.resolve_left (by simp)).1
  have hval : (hexs c).foldl (fun a d => a * 16 + hexv d) 0 = c := by
    unfold hexs; rw [hexsN_val]; unfold Valid at hv; omega
  have hrun : hexRun 6 0 (hexs c ++ ((if sp then [32] else []) ++ r)) = (c, (if sp then [32] else []) ++ r) := by
    rw [hexRun_append (hexs c) _ _ _ (hexsN_hex _) (by omega), hval, hexRun_stop _ _ _ hstop]
  unfold escape
  rw [if_neg (by rw [hexv_neg]; exact fun hn => hn hf), hrun]
  simp only []
  rw [fixv_valid hv]
  cases sp with
  | true =>
    simp only [if_true, List.cons_append, List.nil_append, pk_cons_zero, List.tail_cons]
    rw [if_neg (by unfold isNl; omega), if_pos (by unfold isSp; omega)]
  | false =>
    have h2 := (h.resolve_left (by simp)).2
    simp only [Bool.false_eq_true, if_false, List.nil_append]
    rw [if_neg (fun hn => h2 (.inl hn)), if_neg h2]

def wantSp (after : List Int) (may : Bool) : Bool :=
  match after with
  | [] => may
  | d :: _ => decide (d = 32 ∨ d = 9 ∨ isHex d)
/-- What is printed of one code point (0: as it stands; 1: behind a backslash; else: its hexadecimal digits). -/
def escOut (e : Nat) (c : Int) (after : List Int) (may : Bool) : List Int :=
  if e = 0 then [c]
  else if e = 1 ∧ ¬ isHex c then [92, c]
  else 92 :: (hexs c ++ (if decide ((hexs c).length < 6) && wantSp after may then [32] else []))
def charEsc (ascii : Bool) (init : Nat) (c : Int) : Nat :=
  if ascii = true ∧ 128 ≤ c then 2
  else if c = 13 ∨ c = 10 ∨ c = 12 ∨ c = 65279 then 2
  else if init ≠ 0 then init
  else if cont c then 0 else 1
def identTail (ascii may : Bool) : List Int → List Int
  | [] => []
  | c :: t => escOut (charEsc ascii 0 c) c t may ++ identTail ascii may t
/-- What is printed of a name; init: how its first code point must be escaped (0: it need not). -/
def identOut (ascii may : Bool) (init : Nat) : List Int → List Int
  | [] => []
  | c :: t => escOut (charEsc ascii init c) c t may ++ identTail ascii may t

theorem identOut_zero (ascii may : Bool) (cs : List Int) : identOut ascii may 0 cs = identTail ascii may cs := by cases cs <;> rfl

/-- What may stand behind a name. -/
structure NameStop (may : Bool) (r : List Int) : Prop where
  cont : ¬ cont (pk r 0)
  slash : pk r 0 ≠ 92
  sp : may = true ∨ ¬ isSp (pk r 0)

/-- A text's code points that may be printed. -/
def Good (ascii : Bool) (cs : List Int) : Prop := ∀ c ∈ cs, Valid c ∧ (ascii = true → c < 1048576)

theorem name_stop {may : Bool} {r : List Int} (h : NameStop may r) : name r = ([], false, r) := by
  unfold name
  rw [dif_neg h.cont, dif_neg (fun hn => h.slash hn.1)]

theorem isHex_cont {c : Int} (h : isHex c) : cont c := by unfold isHex at h; unfold cont starts isDg; omega
theorem not_cont_slash : ¬ cont 92 := by unfold cont starts isDg; omega
theorem isSp_not_cont {c : Int} (h : isSp c) : ¬ cont c := by unfold isSp isNl at h; unfold cont starts isDg; omega

/-- The first code point of what is printed of a code point. -/
theorem escOut_first (ascii : Bool) (init : Nat) (c : Int) (t : List Int) (may : Bool) (r : List Int) :
    (pk (escOut (charEsc ascii init c) c t may ++ r) 0 = c ∧ cont c ∧ charEsc ascii init c = 0) ∨ pk (escOut (charEsc ascii init c) c t may ++ r) 0 = 92 := by
  unfold escOut
  by_cases h0 : charEsc ascii init c = 0
  · left
    rw [if_pos h0]
    refine ⟨by simp, ?_, h0⟩
    unfold charEsc at h0
    repeat' split at h0
    all_goals simp_all
  · right
    rw [if_neg h0]
    split <;> simp

/-- One code point of a name. -/
theorem name_escOut (ascii : Bool) (init : Nat) (hi : init ≤ 2) (c : Int) (t r : List Int) (may : Bool) (hv : Valid c) (ha : ascii = true → c < 1048576) (hb : init = 2 → c < 128)
    (hn : c < 1048576 → ∀ sp, sp = (decide ((hexs c).length < 6) && wantSp t may) → sp = true ∨ (¬ isHex (pk r 0) ∧ ¬ isSp (pk r 0))) :
    name (escOut (charEsc ascii init c) c t may ++ r) = (c :: (name r).1, (name r).2.1, (name r).2.2) := by
  unfold escOut
  by_cases h0 : charEsc ascii init c = 0
  · rw [if_pos h0]
    have hc : cont c := by
      unfold charEsc at h0
      repeat' split at h0
      all_goals simp_all
    rw [List.cons_append, List.nil_append]
    rw [name, dif_pos (by simpa using hc)]
    simp
  · rw [if_neg h0]
    by_cases h1 : charEsc ascii init c = 1 ∧ ¬ isHex c
    · rw [if_pos h1]
      have hnl : ¬ isNl c := by
        have := h1.1
        unfold charEsc at this
        unfold isNl
        repeat' split at this
        all_goals (try (exfalso; omega))
        all_goals omega
      rw [List.cons_append, List.cons_append, List.nil_append]
      rw [name, dif_neg (by simpa using not_cont_slash), dif_pos (by simpa [esc] using hnl)]
      have he : escape (c :: r) = (c, false, r) := by
        unfold escape
        rw [if_pos (by rw [hexv_neg]; simpa using h1.2), if_neg (by unfold Valid at hv; simp; omega)]
        simp
      simp only [List.tail_cons, he, Bool.false_or]
    · rw [if_neg h1]
      have hsm : c < 1048576 := by
        by_cases hh : isHex c
        · unfold isHex at hh; omega
        · have h2 : charEsc ascii init c ≠ 1 := fun hx => h1 ⟨hx, hh⟩
          unfold charEsc at h0 h2
          by_cases ha2 : ascii = true ∧ 128 ≤ c
          · exact ha ha2.1
          · rw [if_neg ha2] at h0 h2
            by_cases hb2 : c = 13 ∨ c = 10 ∨ c = 12 ∨ c = 65279
            · omega
            · rw [if_neg hb2] at h0 h2
              by_cases hi0 : init ≠ 0
              · rw [if_pos hi0] at h0 h2
                have := hb (by omega); omega
              · rw [if_neg hi0] at h0 h2
                split at h0 <;> simp_all
      have hesc := escape_hexs hv hsm _ r (hn hsm _ rfl)
      have hf := hexs_first c ((if (decide ((hexs c).length < 6) && wantSp t may) = true then [32] else []) ++ r)
      rw [List.cons_append, List.append_assoc]
      rw [name, dif_neg (by simpa using not_cont_slash), dif_pos]
      · simp only [List.tail_cons, hesc, Bool.false_or]
      · refine ⟨by simp, ?_⟩
        rw [pk_cons_one]
        intro hx
        exact isSp_not_hex (.inl hx) hf

theorem tail_first (ascii may : Bool) (d : Int) (t r : List Int) (h : ¬ (d = 32 ∨ d = 9 ∨ isHex d)) :
    ¬ isHex (pk (identTail ascii may (d :: t) ++ r) 0) ∧ ¬ isSp (pk (identTail ascii may (d :: t) ++ r) 0) := by
  unfold identTail
  rw [List.append_assoc]
  rcases escOut_first ascii 0 d t may (identTail ascii may t ++ r) with ⟨h1, h2, _⟩ | h1
  · rw [h1]; exact ⟨fun hx => h (.inr (.inr hx)), fun hx => isSp_not_cont hx h2⟩
  · rw [h1]; unfold isHex isSp isNl; omega

theorem behind_ok (ascii may : Bool) (c : Int) (t r : List Int) (hs : NameStop may r) (hc : c < 1048576) :
    ∀ sp, sp = (decide ((hexs c).length < 6) && wantSp t may) → sp = true ∨ (¬ isHex (pk (identTail ascii may t ++ r) 0) ∧ ¬ isSp (pk (identTail ascii may t ++ r) 0)) := by
  intro sp hsp
  have hl : (hexs c).length < 6 := by have := hexs_small hc; omega
  cases t with
  | nil =>
    cases may with
    | true => left; simp [hsp, wantSp, hl]
    | false =>
      right
      have h2 := hs.sp.resolve_left (by simp)
      simp only [identTail, List.nil_append]
      exact ⟨fun hx => hs.cont (isHex_cont hx), h2⟩
  | cons d t =>
    by_cases hd : d = 32 ∨ d = 9 ∨ isHex d
    · left; simp [hsp, wantSp, hl]; simpa using hd
    · right; exact tail_first ascii may d t r hd


theorem name_identTail (ascii may : Bool) : ∀ (cs r : List Int), Good ascii cs → NameStop may r → name (identTail ascii may cs ++ r) = (cs, false, r) := by
  intro cs
  induction cs with
  | nil => intro r _ hs; exact name_stop hs
  | cons c t ih =>
    intro r hg hs
    have hc := hg c (by simp)
    have ht := ih r (fun x hx => hg x (by simp [hx])) hs
    unfold identTail
    rw [List.append_assoc, name_escOut ascii 0 (by decide) c t _ may hc.1 hc.2 (fun h => absurd h (by decide)) (fun h => behind_ok ascii may c t r hs h), ht]
theorem name_identOut (ascii may : Bool) (init : Nat) (hi : init ≤ 2) (cs r : List Int) (hg : Good ascii cs) (hb : init = 2 → pk cs 0 < 128) (hs : NameStop may r) :
    name (identOut ascii may init cs ++ r) = (cs, false, r) := by
  cases cs with
  | nil => exact name_stop hs
  | cons c t =>
    have hc := hg c (by simp)
    have ht := name_identTail ascii may t r (fun x hx => hg x (by simp [hx])) hs
    unfold identOut
    rw [List.append_assoc, name_escOut ascii init hi c t _ may hc.1 hc.2 (by simpa using hb) (fun h => behind_ok ascii may c t r hs h), ht]

/-- An identifier without escapes would begin with a name. -/
def would (cs : List Int) : Prop := starts (pk cs 0) ∨ (pk cs 0 = 45 ∧ (starts (pk cs 1) ∨ pk cs 1 = 45))
instance (cs : List Int) : Decidable (would cs) := by unfold would; infer_instance
/-- How the first code point of a name must be escaped (mode 0: an identifier; 1: behind a hash; 2: a unit; else: a unit behind a power of ten). -/
def initEsc (mode : Nat) (cs : List Int) : Nat :=
  if mode = 1 then 0
  else if ¬ would cs then 1
  else if mode = 0 then 0
  else if isDg (pk cs 0) then 2
  else if (pk cs 0 = 101 ∨ pk cs 0 = 69) ∧ mode = 2 ∧ (isDg (pk cs 1) ∨ (pk cs 1 = 45 ∧ isDg (pk cs 2))) then 2
  else 0
theorem initEsc_le (mode : Nat) (cs : List Int) : initEsc mode cs ≤ 2 := by
  unfold initEsc; repeat' split
  all_goals omega
theorem initEsc_low (mode : Nat) (cs : List Int) (h : initEsc mode cs = 2) : pk cs 0 < 128 := by
  unfold initEsc at h
  repeat' split at h
  all_goals first
    | omega
    | (rename_i hd _; unfold isDg at hd; omega)
    | (unfold isDg at *; omega)
def ident (ascii may : Bool) (mode : Nat) (cs : List Int) : List Int := identOut ascii may (initEsc mode cs) cs

theorem name_ident (ascii may : Bool) (mode : Nat) (cs r : List Int) (hg : Good ascii cs) (hs : NameStop may r) : name (ident ascii may mode cs ++ r) = (cs, false, r) :=
  name_identOut ascii may _ (initEsc_le mode cs) cs r hg (initEsc_low mode cs) hs

/-! What a name that is printed begins with. -/
theorem escOut_first2 (ascii : Bool) (init : Nat) (c : Int) (t : List Int) (may : Bool) (r : List Int) :
    (escOut (charEsc ascii init c) c t may = [c] ∧ cont c ∧ charEsc ascii init c = 0) ∨ (charEsc ascii init c ≠ 0 ∧ pk (escOut (charEsc ascii init c) c t may ++ r) 0 = 92 ∧ ¬ isNl (pk (escOut (charEsc ascii init c) c t may ++ r) 1)) := by
  unfold escOut
  by_cases h0 : charEsc ascii init c = 0
  · left
    rw [if_pos h0]
    refine ⟨rfl, ?_, h0⟩
    unfold charEsc at h0
    repeat' split at h0
    all_goals simp_all
  · right
    rw [if_neg h0]
    refine ⟨h0, ?_⟩
    by_cases h1 : charEsc ascii init c = 1 ∧ ¬ isHex c
    · rw [if_pos h1]
      refine ⟨by simp, ?_⟩
      have := h1.1
      have hc : ¬ isNl c := by
        unfold charEsc at this
        unfold isNl
        repeat' split at this
        all_goals (try (exfalso; omega))
        all_goals omega
      simpa using hc
    · rw [if_neg h1]
      refine ⟨by simp, ?_⟩
      rw [List.cons_append, pk_cons_one, List.append_assoc]
      have hf := hexs_first c ((if (decide ((hexs c).length < 6) && wantSp t may) = true then [32] else []) ++ r)
      exact fun hx => isSp_not_hex (.inl hx) hf
theorem identTail_first (ascii may : Bool) (c : Int) (t r : List Int) :
    (pk (identTail ascii may (c :: t) ++ r) 0 = c ∧ cont c ∧ identTail ascii may (c :: t) = c :: identTail ascii may t) ∨ (pk (identTail ascii may (c :: t) ++ r) 0 = 92 ∧ ¬ isNl (pk (identTail ascii may (c :: t) ++ r) 1)) := by
  have he : identTail ascii may (c :: t) = escOut (charEsc ascii 0 c) c t may ++ identTail ascii may t := rfl
  rw [he, List.append_assoc]
  rcases escOut_first2 ascii 0 c t may (identTail ascii may t ++ r) with ⟨h1, h2, _⟩ | ⟨_, h1, h2⟩
  · left; rw [h1]; exact ⟨by simp, h2, by simp⟩
  · right; exact ⟨h1, h2⟩
theorem charEsc_one_ne (ascii : Bool) (init : Nat) (h : init ≠ 0) (c : Int) : charEsc ascii init c ≠ 0 := by
  unfold charEsc; repeat' split
  all_goals first | omega | contradiction
/-- The first code point of a name that must be escaped. -/
theorem identOut_esc (ascii may : Bool) (init : Nat) (h : init ≠ 0) (c : Int) (t r : List Int) :
    pk (identOut ascii may init (c :: t) ++ r) 0 = 92 ∧ ¬ isNl (pk (identOut ascii may init (c :: t) ++ r) 1) := by
  unfold identOut
  rw [List.append_assoc]
  rcases escOut_first2 ascii init c t may (identTail ascii may t ++ r) with ⟨_, _, h3⟩ | ⟨_, h1, h2⟩
  · exact absurd h3 (charEsc_one_ne ascii init h c)
  · exact ⟨h1, h2⟩

/-- What may stand behind a name, all of it. -/
structure NameEnd (may : Bool) (r : List Int) : Prop extends NameStop may r where
  gt : pk r 0 ≠ 62
  plus : pk r 0 ≠ 43

/-- The first two code points of what stands behind a hyphen. -/
theorem tail_head (ascii may : Bool) (t r : List Int) (_hs : NameEnd may r) :
    (t = [] ∧ pk (identTail ascii may t ++ r) 0 = pk r 0) ∨ (∃ d t', t = d :: t' ∧ ((pk (identTail ascii may t ++ r) 0 = d ∧ cont d ∧ identTail ascii may t = d :: identTail ascii may t') ∨ (pk (identTail ascii may t ++ r) 0 = 92 ∧ ¬ isNl (pk (identTail ascii may t ++ r) 1)))) := by
  cases t with
  | nil => left; exact ⟨rfl, rfl⟩
  | cons d t' => right; exact ⟨d, t', rfl, identTail_first ascii may d t' r⟩

theorem tail_no (ascii may : Bool) (t r : List Int) (hs : NameEnd may r) :
    pk (identTail ascii may t ++ r) 0 ≠ 62 ∧ pk (identTail ascii may t ++ r) 0 ≠ 43 ∧ pk (identTail ascii may t ++ r) 0 ≠ 46 ∨ t = [] := by
  rcases tail_head ascii may t r hs with ⟨h, _⟩ | ⟨d, t', rfl, ⟨h, hc, _⟩ | ⟨h, _⟩⟩
  · exact .inr h
  · left; rw [h]; unfold cont starts isDg at hc; omega
  · left; rw [h]; omega

/-- An identifier that is printed begins as one. -/
theorem ident_begins (ascii may : Bool) (mode : Nat) (hm : mode ≠ 1) (cs r : List Int) (hne : cs ≠ []) (hs : NameEnd may r) :
    ident3 (pk (ident ascii may mode cs ++ r) 0) (pk (ident ascii may mode cs ++ r) 1) (pk (ident ascii may mode cs ++ r) 2)
    ∧ ¬ (pk (ident ascii may mode cs ++ r) 0 = 45 ∧ pk (ident ascii may mode cs ++ r) 1 = 45 ∧ pk (ident ascii may mode cs ++ r) 2 = 62)
    ∧ ¬ counts (pk (ident ascii may mode cs ++ r) 0) (pk (ident ascii may mode cs ++ r) 1) (pk (ident ascii may mode cs ++ r) 2)
    ∧ (starts (pk (ident ascii may mode cs ++ r) 0) ∨ pk (ident ascii may mode cs ++ r) 0 = 45 ∨ pk (ident ascii may mode cs ++ r) 0 = 92) := by
  obtain ⟨c, t, rfl⟩ := List.exists_cons_of_ne_nil hne
  unfold ident
  by_cases hi : initEsc mode (c :: t) = 0
  · rw [hi, identOut_zero]
    have hw : would (c :: t) := by
      unfold initEsc at hi
      rw [if_neg hm] at hi
      by_cases hw : would (c :: t)
      · exact hw
      · rw [if_pos hw] at hi; omega
    rcases identTail_first ascii may c t r with ⟨h1, h2, h3⟩ | ⟨h1, h2⟩
    · rcases hw with hw | ⟨hw, hw2⟩
      · rw [pk_cons_zero] at hw
        rw [h1]
        refine ⟨.inr ⟨?_, .inl hw⟩, ?_, ?_, .inl hw⟩
        · unfold starts at hw; omega
        · unfold starts at hw; omega
        · unfold starts at hw; unfold counts num2 isDg; omega
      · rw [pk_cons_zero] at hw
        rw [pk_cons_one] at hw2
        rw [h3]
        simp only [List.cons_append, pk_cons_zero, pk_cons_one, pk_cons_two]
        subst hw
        rcases tail_head ascii may t r hs with ⟨rfl, _⟩ | ⟨d, t', rfl, ⟨h4, h5, h6⟩ | ⟨h4, h5⟩⟩
        · simp [starts] at hw2
        · rw [pk_cons_zero] at hw2
          rw [h4]
          refine ⟨.inl ⟨rfl, ?_⟩, ?_, ?_, .inr (.inl rfl)⟩
          · rcases hw2 with hw2 | hw2
            · exact .inl hw2
            · exact .inr (.inl hw2)
          · rw [h6, List.cons_append, pk_cons_one]
            rcases tail_no ascii may t' r hs with h7 | rfl
            · omega
            · have := hs.gt; simp only [identTail, List.nil_append]; omega
          · unfold counts num2 isDg; unfold starts at hw2; omega
        · rw [h4]
          refine ⟨.inl ⟨rfl, .inr (.inr ⟨rfl, h5⟩)⟩, ?_, ?_, .inr (.inl rfl)⟩
          · omega
          · unfold counts num2 isDg; omega
    · rw [h1]
      refine ⟨.inr ⟨by decide, .inr ⟨rfl, h2⟩⟩, by omega, ?_, .inr (.inr rfl)⟩
      unfold counts num2 isDg; omega
  · obtain ⟨h1, h2⟩ := identOut_esc ascii may _ hi c t r
    rw [h1]
    refine ⟨.inr ⟨by decide, .inr ⟨rfl, h2⟩⟩, by omega, ?_, .inr (.inr rfl)⟩
    unfold counts num2 isDg; omega

/-- A unit that is printed behind digits isn't read as a power of ten. -/
theorem unit_no_power (ascii may : Bool) (cs r : List Int) (hne : cs ≠ []) (hs : NameEnd may r) :
    ¬ ((pk (ident ascii may 2 cs ++ r) 0 = 101 ∨ pk (ident ascii may 2 cs ++ r) 0 = 69) ∧ (isDg (pk (ident ascii may 2 cs ++ r) 1) ∨ ((pk (ident ascii may 2 cs ++ r) 1 = 43 ∨ pk (ident ascii may 2 cs ++ r) 1 = 45) ∧ isDg (pk (ident ascii may 2 cs ++ r) 2)))) := by
  obtain ⟨c, t, rfl⟩ := List.exists_cons_of_ne_nil hne
  unfold ident
  by_cases hi : initEsc 2 (c :: t) = 0
  · rw [hi, identOut_zero]
    rcases identTail_first ascii may c t r with ⟨h1, h2, h3⟩ | ⟨h1, h2⟩
    · rw [h3]
      simp only [List.cons_append, pk_cons_zero, pk_cons_one, pk_cons_two]
      rintro ⟨he, hx⟩
      have hno : ¬ (isDg (pk t 0) ∨ (pk t 0 = 45 ∧ isDg (pk t 1))) := by
        intro hb
        unfold initEsc at hi
        rw [if_neg (by decide)] at hi
        have hw : would (c :: t) := .inl (by rw [pk_cons_zero]; unfold starts; omega)
        rw [if_neg (fun hn => hn hw), if_neg (by decide), if_neg (by rw [pk_cons_zero]; unfold isDg; omega), if_pos] at hi
        · omega
        · simp only [pk_cons_zero, pk_cons_one, pk_cons_two]; exact ⟨he, trivial, hb⟩
      rcases tail_head ascii may t r hs with ⟨rfl, _⟩ | ⟨d, t', rfl, ⟨h4, h5, h6⟩ | ⟨h4, h5⟩⟩
      · simp only [identTail, List.nil_append] at hx
        have h7 := hs.cont; have h8 := hs.plus
        unfold cont at h7
        rcases hx with hx | ⟨hx, _⟩
        · exact h7 (.inr (.inl hx))
        · rcases hx with hx | hx
          · exact h8 hx
          · exact h7 (.inr (.inr hx))
      · rw [h4, h6] at hx
        simp only [List.cons_append, pk_cons_one] at hx
        simp only [pk_cons_zero, pk_cons_one] at hno
        rcases hx with hx | ⟨hx, hx2⟩
        · exact hno (.inl hx)
        · rcases hx with hx | hx
          · subst hx; exact absurd h5 (by unfold cont starts isDg; omega)
          · apply hno; right; refine ⟨hx, ?_⟩
            rcases tail_head ascii may t' r hs with ⟨rfl, _⟩ | ⟨d2, t2, rfl, ⟨h7, h8, h9⟩ | ⟨h7, _⟩⟩
            · simp only [identTail, List.nil_append] at hx2
              exact absurd (.inr (.inl hx2)) hs.cont
            · rw [h7] at hx2; rw [pk_cons_zero]; exact hx2
            · rw [h7] at hx2; unfold isDg at hx2; omega
      · rw [h4] at hx; unfold isDg at hx; omega
    · rw [h1]; omega
  · obtain ⟨h1, h2⟩ := identOut_esc ascii may _ hi c t r
    rw [h1]; omega

/-- A name behind the sign of a hash. -/
theorem hash_begins (ascii may : Bool) (cs r : List Int) (hne : cs ≠ []) :
    cont (pk (ident ascii may 1 cs ++ r) 0) ∨ esc (pk (ident ascii may 1 cs ++ r) 0) (pk (ident ascii may 1 cs ++ r) 1) := by
  obtain ⟨c, t, rfl⟩ := List.exists_cons_of_ne_nil hne
  unfold ident
  have hi : initEsc 1 (c :: t) = 0 := rfl
  rw [hi, identOut_zero]
  rcases identTail_first ascii may c t r with ⟨h1, h2, h3⟩ | ⟨h1, h2⟩
  · left; rw [h1]; exact h2
  · right; exact ⟨h1, h2⟩

end Css
end Go.Proofs.YtkfdcbdlcipmfaaGreatFmt
/- PLAIN: each token that is printed is read as this token, whatever stands behind it, as long as that may stand there. No program in sight. -/
namespace Go.Proofs.YtkfdcbdlcipmfaaGreatFmt
namespace Css

theorem comments_none {ds : List Int} (h : ¬ (pk ds 0 = 47 ∧ pk ds 1 = 42)) : comments ds = (0, false, ds) := by
  unfold comments; rw [dif_neg h]

/-- A text begins with a token; this is left. -/
structure Step (t : Tk) (out r : List Int) : Prop where
  com : ¬ (pk (out ++ r) 0 = 47 ∧ pk (out ++ r) 1 = 42)
  ne : pk (out ++ r) 0 ≠ -1
  next : next (out ++ r) = (t, false, r)

theorem Step.tokens {t : Tk} {out r : List Int} (h : Step t out r) :
    tokens (out ++ r) = ((t, out ++ r, r) :: (tokens r).1, (tokens r).2.1, (tokens r).2.2) := by
  rw [Css.tokens]
  simp only [comments_none h.com]
  rw [dif_neg h.ne]
  simp only [h.next, Bool.false_or, Nat.zero_add]

/-! ### Names -/
theorem NameEnd.stop {may : Bool} {r : List Int} (h : NameEnd may r) : NameStop may r := h.toNameStop

theorem quotes_not_name {a : Int} (h : starts a ∨ a = 45 ∨ a = 92) : ¬ (a = 47 ∧ True) ∧ a ≠ -1 ∧ ¬ isSp a ∧ ¬ (a = 34 ∨ a = 39) ∧ a ≠ 35 ∧ a ≠ 47 := by
  unfold starts at h; unfold isSp isNl; omega

theorem step_ident (ascii may : Bool) (cs r : List Int) (hg : Good ascii cs) (hne : cs ≠ []) (hs : NameEnd may r) (hp : pk r 0 ≠ 40) :
    Step ⟨29, 0, cs⟩ (ident ascii may 0 cs) r := by
  obtain ⟨h1, h2, h3, h4⟩ := ident_begins ascii may 0 (by decide) cs r hne hs
  obtain ⟨_, h5, h6, h7, h8, h9⟩ := quotes_not_name h4
  refine ⟨fun h => h9 h.1, h5, ?_⟩
  unfold next
  rw [if_neg h5, if_neg h6, if_neg h7, if_neg (fun h => h8 h.1), if_neg h3, if_neg h2, if_pos h1]
  unfold named
  simp only [name_ident ascii may 0 cs r hg hs.stop]
  rw [if_pos hp]

theorem step_function (ascii may : Bool) (cs r : List Int) (hg : Good ascii cs) (hne : cs ≠ []) (hu : isUrlB (enc cs) = false) :
    Step ⟨27, 0, cs⟩ (ident ascii may 0 cs ++ [40]) r := by
  have hs : NameEnd may (40 :: r) := ⟨⟨by simp [cont, starts, isDg], by simp, by simp [isSp, isNl]⟩, by simp, by simp⟩
  obtain ⟨h1, h2, h3, h4⟩ := ident_begins ascii may 0 (by decide) cs (40 :: r) hne hs
  obtain ⟨_, h5, h6, h7, h8, h9⟩ := quotes_not_name h4
  have e : ident ascii may 0 cs ++ [40] ++ r = ident ascii may 0 cs ++ 40 :: r := by simp
  refine ⟨by rw [e]; exact fun h => h9 h.1, by rw [e]; exact h5, ?_⟩
  rw [e]
  unfold next
  rw [if_neg h5, if_neg h6, if_neg h7, if_neg (fun h => h8 h.1), if_neg h3, if_neg h2, if_pos h1]
  unfold named
  simp only [name_ident ascii may 0 cs (40 :: r) hg hs.stop]
  rw [if_neg (by simp), if_neg (by simp [hu])]
  simp

theorem step_at (ascii may : Bool) (cs r : List Int) (hg : Good ascii cs) (hne : cs ≠ []) (hs : NameEnd may r) :
    Step ⟨1, 0, cs⟩ (64 :: ident ascii may 0 cs) r := by
  obtain ⟨h1, h2, h3, h4⟩ := ident_begins ascii may 0 (by decide) cs r hne hs
  refine ⟨by simp, by simp, ?_⟩
  rw [List.cons_append]
  unfold next
  simp only [pk_cons_zero, pk_cons_one, pk_cons_two, pk_cons_three, List.tail_cons]
  rw [if_neg (by decide), if_neg (by decide), if_neg (by decide), if_neg (by omega), if_neg (by unfold counts num2 isDg; omega), if_neg (by omega), if_neg (by unfold ident3 starts esc; omega), if_neg (by omega), if_pos ⟨trivial, h1⟩]
  simp only [name_ident ascii may 0 cs r hg hs.stop]

theorem step_hash (ascii may : Bool) (cs r : List Int) (hg : Good ascii cs) (hne : cs ≠ []) (hs : NameEnd may r) :
    Step ⟨28, 0, cs⟩ (35 :: ident ascii may 1 cs) r := by
  have h1 := hash_begins ascii may cs r hne
  refine ⟨by simp, by simp, ?_⟩
  rw [List.cons_append]
  unfold next
  simp only [pk_cons_zero, pk_cons_one, pk_cons_two, pk_cons_three, List.tail_cons]
  rw [if_neg (by decide), if_neg (by decide), if_neg (by decide), if_pos ⟨trivial, h1⟩]
  simp only [name_ident ascii may 1 cs r hg hs.stop]

/-! ### Strings -/
/-- What may be printed of a text in quotes: of each code point, itself; behind a backslash; its hexadecimal digits. -/
inductive StrOut (q : Int) (ascii : Bool) : List Int → List Int → Prop
  | nil : StrOut q ascii [] []
  | plain (c : Int) (t out : List Int) : StrOut q ascii t out → c ≠ q → c ≠ 92 → ¬ isNl c → (ascii = true → c < 128) → c ≠ 65279 → StrOut q ascii (c :: t) (c :: out)
  | slash (c : Int) (t out : List Int) : StrOut q ascii t out → (c = q ∨ c = 92 ∨ c = 47) → StrOut q ascii (c :: t) (92 :: c :: out)
  | hex (c : Int) (t out : List Int) : StrOut q ascii t out → (isNl c ∨ c = 65279 ∨ (ascii = true ∧ 128 ≤ c)) → StrOut q ascii (c :: t) (92 :: (hexs c ++ ((if wantSp t false then [32] else []) ++ out)))

theorem strOut_first {q : Int} {ascii : Bool} {d : Int} {t out : List Int} (h : StrOut q ascii (d :: t) out) (r : List Int) (hd : ¬ (d = 32 ∨ d = 9 ∨ isHex d)) :
    ¬ isHex (pk (out ++ r) 0) ∧ ¬ isSp (pk (out ++ r) 0) := by
  cases h with
  | plain _ _ out h h1 h2 h3 h4 h5 =>
    simp only [List.cons_append, pk_cons_zero]
    refine ⟨fun hx => hd (.inr (.inr hx)), fun hx => ?_⟩
    rcases hx with hx | hx
    · exact h3 hx
    · omega
  | slash _ _ out h h1 => simp [isHex, isSp, isNl]
  | hex _ _ out h h1 => simp [isHex, isSp, isNl]

theorem quoted_strOut (q : Int) (hq : q = 34 ∨ q = 39) (ascii : Bool) (cs out : List Int) (h : StrOut q ascii cs out) (hg : Good ascii cs) (r : List Int) :
    quotedRun q (out ++ q :: r) = (36, cs, false, r) := by
  induction h with
  | nil => unfold quotedRun; simp
  | plain c t out h h1 h2 h3 h4 h5 ih =>
    have hv := (hg c (by simp)).1
    have ih := ih (fun x hx => hg x (by simp [hx]))
    rw [List.cons_append, quotedRun]
    simp only [pk_cons_zero, pk_cons_one, List.tail_cons]
    rw [if_neg h1, dif_neg (by unfold Valid at hv; omega), if_neg h3, if_neg (by omega), if_neg (fun hx => h2 hx.1), if_neg h2]
    simp only [ih, if_true]
  | slash c t out h h1 ih =>
    have hv := (hg c (by simp)).1
    have ih := ih (fun x hx => hg x (by simp [hx]))
    have he : escape (c :: (out ++ q :: r)) = (c, false, out ++ q :: r) := by
      unfold escape
      rw [if_pos (by rw [hexv_neg, pk_cons_zero]; unfold isHex; omega), if_neg (by rw [pk_cons_zero]; omega)]
      simp
    rw [List.cons_append, List.cons_append, quotedRun]
    simp only [pk_cons_zero, pk_cons_one, List.tail_cons]
    rw [if_neg (by omega), dif_neg (by omega), if_neg (by unfold isNl; omega), if_neg (by omega), if_neg (by unfold isNl; omega), if_pos trivial]
    simp [he, ih]
  | hex c t out h h1 ih =>
    have hv := (hg c (by simp)).1
    have hc : c < 1048576 := by
      rcases h1 with h1 | h1 | h1
      · unfold isNl at h1; omega
      · omega
      · exact (hg c (by simp)).2 h1.1
    have ih := ih (fun x hx => hg x (by simp [hx]))
    have hb : wantSp t false = true ∨ (¬ isHex (pk (out ++ q :: r) 0) ∧ ¬ isSp (pk (out ++ q :: r) 0)) := by
      cases t with
      | nil =>
        right
        cases h
        simp only [List.nil_append, pk_cons_zero]
        unfold isHex isSp isNl; omega
      | cons d t =>
        by_cases hd : d = 32 ∨ d = 9 ∨ isHex d
        · left; simpa [wantSp] using hd
        · right; exact strOut_first h _ hd
    have he := escape_hexs hv hc _ _ hb
    have hf := hexs_first c ((if wantSp t false = true then [32] else []) ++ (out ++ q :: r))
    have e : 92 :: (hexs c ++ ((if wantSp t false = true then [32] else []) ++ out)) ++ q :: r = 92 :: (hexs c ++ ((if wantSp t false = true then [32] else []) ++ (out ++ q :: r))) := by simp
    rw [e, quotedRun]
    simp only [pk_cons_zero, pk_cons_one, List.tail_cons]
    rw [if_neg (by omega), dif_neg (by omega), if_neg (by unfold isNl; omega), if_neg (by rintro ⟨_, hx⟩; rw [hx] at hf; unfold isHex at hf; omega), if_neg (fun hx => isSp_not_hex (.inl hx.2) hf), if_pos trivial]
    simp [he, ih]

theorem step_string (q : Int) (hq : q = 34 ∨ q = 39) (ascii : Bool) (cs out r : List Int) (h : StrOut q ascii cs out) (hg : Good ascii cs) :
    Step ⟨36, 0, cs⟩ (q :: (out ++ [q])) r := by
  have e : q :: (out ++ [q]) ++ r = q :: (out ++ q :: r) := by simp
  refine ⟨by rw [e]; simp; omega, by rw [e]; simp; omega, ?_⟩
  rw [e]
  unfold next
  simp only [pk_cons_zero, List.tail_cons]
  rw [if_neg (by omega), if_neg (by unfold isSp isNl; omega), if_pos hq]
  simp only [quoted_strOut q hq ascii cs out h hg r]

end Css
end Go.Proofs.YtkfdcbdlcipmfaaGreatFmt
/- PLAIN: numbers, percentages, dimensions and signs that are a token by themselves are read as the same token, whatever stands behind them, as long as that may stand there. No program in sight. -/
namespace Go.Proofs.YtkfdcbdlcipmfaaGreatFmt
namespace Css

theorem pk_app {a : List Int} {k : Nat} (r : List Int) (h : pk a k ≠ -1) : pk (a ++ r) k = pk a k := by
  by_cases hk : k < a.length
  · exact pk_append_left hk
  · exfalso; apply h; unfold pk; simp [List.getD_eq_getElem?_getD, List.getElem?_eq_none (Nat.le_of_not_lt hk)]
theorem nil_of_pk {a : List Int} (hm : ∀ c ∈ a, c ≠ -1) (h : pk a 0 = -1) : a = [] := by
  cases a with
  | nil => rfl
  | cons c t => exact absurd (by simpa using h) (hm c (by simp))
theorem digits_sub (a : List Int) : ∀ c ∈ digits a, c ∈ a := by
  induction a with
  | nil => simp [digits]
  | cons d t ih => intro c hc; unfold digits at hc; split at hc <;> simp_all
theorem digits_all {a : List Int} (h : digits a = []) : ∀ c ∈ a, isDg c := by
  induction a with
  | nil => simp
  | cons d t ih =>
    unfold digits at h
    split at h
    · intro c hc; simp at hc; rcases hc with rfl | hc; assumption; exact ih h c hc
    · simp at h
theorem digits_app (a r : List Int) : digits (a ++ r) = if digits a = [] then digits r else digits a ++ r := by
  induction a with
  | nil => simp [digits]
  | cons d t ih =>
    rw [List.cons_append]
    by_cases hd : isDg d
    · have e1 : digits (d :: (t ++ r)) = digits (t ++ r) := by rw [digits, if_pos hd]
      have e2 : digits (d :: t) = digits t := by rw [digits, if_pos hd]
      rw [e1, e2]; exact ih
    · have e1 : digits (d :: (t ++ r)) = d :: (t ++ r) := by rw [digits, if_neg hd]
      have e2 : digits (d :: t) = d :: t := by rw [digits, if_neg hd]
      rw [e1, e2]; simp
theorem digits_stop {r : List Int} (h : ¬ isDg (pk r 0)) : digits r = r := by
  cases r with
  | nil => rfl
  | cons c t => unfold digits; rw [if_neg (by simpa using h)]
theorem digits_head {a : List Int} (h : digits a ≠ []) : ¬ isDg (pk (digits a) 0) := by
  induction a with
  | nil => simp [digits] at h
  | cons d t ih =>
    by_cases hd : isDg d
    · have e : digits (d :: t) = digits t := by rw [digits, if_pos hd]
      rw [e] at h ⊢; exact ih h
    · have e : digits (d :: t) = d :: t := by rw [digits, if_neg hd]
      rw [e]; simpa using hd

def power (r : List Int) : Prop := (pk r 0 = 101 ∨ pk r 0 = 69) ∧ (isDg (pk r 1) ∨ ((pk r 1 = 43 ∨ pk r 1 = 45) ∧ isDg (pk r 2)))
theorem numExp_stop {r : List Int} (h : ¬ power r) : numExp r = r := by unfold numExp; exact if_neg h
theorem numExp_go {r : List Int} (h : power r) : numExp r = digits r.tail.tail := by unfold numExp; exact if_pos h
theorem numDot_stop {r : List Int} (h : pk r 0 ≠ 46) : numDot r = r := by unfold numDot; rw [if_neg (by omega)]
theorem isDg_ne {c : Int} (h : isDg c) : c ≠ -1 := by unfold isDg at h; omega
theorem power_app {a : List Int} (r : List Int) (h : power a) : power (a ++ r) := by
  obtain ⟨h1, h2⟩ := h
  unfold power
  rw [pk_app r (by omega : pk a 0 ≠ -1)]
  refine ⟨h1, ?_⟩
  rcases h2 with h2 | ⟨h2, h3⟩
  · rw [pk_app r (isDg_ne h2)]; exact .inl h2
  · rw [pk_app r (by omega : pk a 1 ≠ -1), pk_app r (isDg_ne h3)]; exact .inr ⟨h2, h3⟩
theorem tail_app {a : List Int} (r : List Int) (h : pk a 0 ≠ -1) : (a ++ r).tail = a.tail ++ r := by
  cases a with
  | nil => simp at h
  | cons c t => rfl
theorem pk_tail (a : List Int) (k : Nat) : pk a.tail k = pk a (k + 1) := by cases a <;> simp

/-- What stands behind the digits ahead of a point: what is taken of it. -/
theorem numExp_digits {d2 : List Int} (h : numExp d2 = []) (hne : d2 ≠ []) : power d2 ∧ digits d2.tail.tail = [] := by
  unfold numExp at h
  split at h
  · rename_i hp; exact ⟨hp, h⟩
  · exact absurd h hne
theorem numExp_power_app {d2 r : List Int} (hp : power d2) (hd : digits d2.tail.tail = []) (hr : ¬ isDg (pk r 0)) : numExp (d2 ++ r) = r := by
  have hp2 := power_app r hp
  rw [numExp_go hp2]
  have h0 : pk d2 0 ≠ -1 := by have hx : pk d2 0 = 101 ∨ pk d2 0 = 69 := hp.1; omega
  have h1 : pk d2.tail 0 ≠ -1 := by
    rw [pk_tail]
    show pk d2 1 ≠ -1
    rcases hp.2 with h | ⟨h, _⟩
    · exact isDg_ne h
    · omega
  rw [tail_app r h0, tail_app r h1, digits_app, if_pos hd, digits_stop hr]

theorem numDot_cases (d1 : List Int) (ho : numOpen d1 = false) : (pk d1 0 = 46 ∧ isDg (pk d1 1) ∧ numDot d1 = digits d1.tail) ∨ (pk d1 0 ≠ 46 ∧ numDot d1 = d1) := by
  unfold numOpen at ho
  simp only [decide_eq_false_iff_not] at ho
  unfold numDot
  by_cases h : pk d1 0 = 46 ∧ isDg (pk d1 1)
  · left; rw [if_pos h]; exact ⟨h.1, h.2, rfl⟩
  · right; rw [if_neg h]; refine ⟨fun hx => ?_, rfl⟩
    by_cases hy : isDg (pk d1 1)
    · exact h ⟨hx, hy⟩
    · exact ho ⟨hx, hy⟩

/-- A number's whole text: with a power of ten, or without. -/
theorem numEnd_app {cs : List Int} (hne : cs ≠ []) (h : numEnd cs = (false, [])) (hm : ∀ c ∈ cs, c ≠ -1) :
    ((∀ c ∈ cs, c ≠ 101 ∧ c ≠ 69) ∧ ∀ r, ¬ isDg (pk r 0) → pk r 0 ≠ 46 → ¬ power r → numEnd (cs ++ r) = (false, r))
    ∨ ((101 ∈ cs ∨ 69 ∈ cs) ∧ ∀ r, ¬ isDg (pk r 0) → numEnd (cs ++ r) = (false, r)) := by
  unfold numEnd at h
  simp only [Prod.mk.injEq] at h
  obtain ⟨ho, he⟩ := h
  have h0 : pk cs 0 ≠ -1 := fun hx => hne (nil_of_pk hm hx)
  have hs : ∀ r, numSign (cs ++ r) = numSign cs ++ r := by
    intro r; unfold numSign; rw [pk_app r h0]
    split
    · exact tail_app r h0
    · rfl
  have hsub : ∀ c ∈ numSign cs, c ∈ cs := by
    intro c hc; unfold numSign at hc; split at hc
    · exact List.mem_of_mem_tail hc
    · exact hc
  have hback : (∀ c ∈ numSign cs, c ≠ 101 ∧ c ≠ 69) → ∀ c ∈ cs, c ≠ 101 ∧ c ≠ 69 := by
    intro hb
    unfold numSign at hb
    split at hb
    · rename_i hx
      cases cs with
      | nil => simp
      | cons d t =>
        intro c hc; simp at hc
        rcases hc with rfl | hc
        · simp at hx; omega
        · exact hb c (by simpa using hc)
    · exact hb
  by_cases hd1 : digits (numSign cs) = []
  · left
    refine ⟨hback fun c hc => ?_, ?_⟩
    · have := digits_all hd1 c hc; unfold isDg at this; omega
    · intro r h1 h2 h3
      unfold numEnd
      rw [hs, digits_app, if_pos hd1, digits_stop h1, numDot_stop h2, numExp_stop h3]
      simp [numOpen, h2]
  · have hd1m : ∀ c ∈ digits (numSign cs), c ≠ -1 := fun c hc => hm c (hsub c (digits_sub _ c hc))
    have hp0 : pk (digits (numSign cs)) 0 ≠ -1 := fun hx => hd1 (nil_of_pk hd1m hx)
    have hopen : ∀ r, numOpen (digits (numSign cs) ++ r) = false := by
      intro r
      unfold numOpen at ho ⊢
      simp only [decide_eq_false_iff_not] at ho ⊢
      rw [pk_app r hp0]
      intro hx
      apply ho
      refine ⟨hx.1, fun hy => hx.2 ?_⟩
      rw [pk_app r (isDg_ne hy)]; exact hy
    rcases numDot_cases _ ho with ⟨hp, hp2, hdot⟩ | ⟨hp, hdot⟩
    · rw [hdot] at he
      have hda : ∀ r, numDot (digits (numSign cs) ++ r) = if digits (digits (numSign cs)).tail = [] then digits r else digits (digits (numSign cs)).tail ++ r := by
        intro r
        unfold numDot
        rw [pk_app r hp0, pk_app r (isDg_ne hp2), if_pos ⟨hp, hp2⟩, tail_app r hp0, digits_app]
      by_cases hd2 : digits (digits (numSign cs)).tail = []
      · left
        refine ⟨hback fun c hc => ?_, ?_⟩
        · -- the digits ahead of the point, the point, the digits behind it
          have key : ∀ a : List Int, (∀ c ∈ a, c ≠ -1) → pk (digits a) 0 = 46 → digits (digits a).tail = [] → ∀ c ∈ a, c ≠ 101 ∧ c ≠ 69 := by
            intro a
            induction a with
            | nil => simp
            | cons d t ih =>
              intro hma h1 h2 c hc
              by_cases hdd : isDg d
              · have e : digits (d :: t) = digits t := by rw [digits, if_pos hdd]
                rw [e] at h1 h2
                simp at hc
                rcases hc with rfl | hc
                · unfold isDg at hdd; omega
                · exact ih (fun x hx => hma x (by simp [hx])) h1 h2 c hc
              · have e : digits (d :: t) = d :: t := by rw [digits, if_neg hdd]
                rw [e] at h1 h2
                simp at h1 h2 hc
                rcases hc with rfl | hc
                · omega
                · have := digits_all h2 c hc; unfold isDg at this; omega
          exact key _ (fun c hc => hm c (hsub c hc)) hp hd2 c hc
        · intro r h1 h2 h3
          unfold numEnd
          rw [hs, digits_app, if_neg hd1, hopen, hda, if_pos hd2, digits_stop h1, numExp_stop h3]
      · right
        obtain ⟨hpow, hdd⟩ := numExp_digits he hd2
        refine ⟨?_, ?_⟩
        · have hin : pk (digits (digits (numSign cs)).tail) 0 ∈ cs := by
            apply hsub; apply digits_sub; apply List.mem_of_mem_tail; apply digits_sub
            exact pk_mem (List.length_pos_iff.2 hd2)
          rcases hpow.1 with hx | hx
          · left; rw [← hx]; exact hin
          · right; rw [← hx]; exact hin
        · intro r h1
          unfold numEnd
          rw [hs, digits_app, if_neg hd1, hopen, hda, if_neg hd2, numExp_power_app hpow hdd h1]
    · rw [hdot] at he
      right
      obtain ⟨hpow, hdd⟩ := numExp_digits he hd1
      refine ⟨?_, ?_⟩
      · have hin : pk (digits (numSign cs)) 0 ∈ cs := by
          apply hsub; apply digits_sub
          exact pk_mem (List.length_pos_iff.2 hd1)
        rcases hpow.1 with hx | hx
        · left; rw [← hx]; exact hin
        · right; rw [← hx]; exact hin
      · intro r h1
        have hda : numDot (digits (numSign cs) ++ r) = digits (numSign cs) ++ r := numDot_stop (by rw [pk_app r hp0]; exact hp)
        unfold numEnd
        rw [hs, digits_app, if_neg hd1, hopen, hda, numExp_power_app hpow hdd h1]

/-- A percentage's text. -/
theorem numEnd_pct {cs : List Int} (h : numEnd cs = (false, [37])) (hm : ∀ c ∈ cs, c ≠ -1) (r : List Int) : numEnd (cs ++ r) = (false, 37 :: r) := by
  unfold numEnd at h
  simp only [Prod.mk.injEq] at h
  obtain ⟨ho, he⟩ := h
  have hne : cs ≠ [] := by rintro rfl; simp [numSign, digits, numDot, numExp, isDg] at he
  have h0 : pk cs 0 ≠ -1 := fun hx => hne (nil_of_pk hm hx)
  have hs : numSign (cs ++ r) = numSign cs ++ r := by
    unfold numSign; rw [pk_app r h0]
    split
    · exact tail_app r h0
    · rfl
  have hsub : ∀ c ∈ numSign cs, c ∈ cs := by
    intro c hc; unfold numSign at hc; split at hc
    · exact List.mem_of_mem_tail hc
    · exact hc
  have hx : ∀ d2 : List Int, numExp d2 = [37] → d2 ≠ [] ∧ numExp (d2 ++ r) = 37 :: r := by
    intro d2 h2
    unfold numExp at h2
    split at h2
    · rename_i hp
      have hp2 := power_app r hp
      refine ⟨by rintro rfl; simp at hp, ?_⟩
      rw [numExp_go hp2]
      have h0 : pk d2 0 ≠ -1 := by have hx : pk d2 0 = 101 ∨ pk d2 0 = 69 := hp.1; omega
      have h1 : pk d2.tail 0 ≠ -1 := by
        rw [pk_tail]
        show pk d2 1 ≠ -1
        rcases hp.2 with h | ⟨h, _⟩
        · exact isDg_ne h
        · omega
      rw [tail_app r h0, tail_app r h1, digits_app, if_neg (by rw [h2]; simp), h2]
      rfl
    · subst h2
      refine ⟨by simp, ?_⟩
      rw [numExp_stop (by unfold power; simp)]
      rfl
  by_cases hd1 : digits (numSign cs) = []
  · rw [hd1] at he; simp [numDot, numExp, isDg] at he
  · have hd1m : ∀ c ∈ digits (numSign cs), c ≠ -1 := fun c hc => hm c (hsub c (digits_sub _ c hc))
    have hp0 : pk (digits (numSign cs)) 0 ≠ -1 := fun hx => hd1 (nil_of_pk hd1m hx)
    have hopen : numOpen (digits (numSign cs) ++ r) = false := by
      unfold numOpen at ho ⊢
      simp only [decide_eq_false_iff_not] at ho ⊢
      rw [pk_app r hp0]
      intro hx
      apply ho
      refine ⟨hx.1, fun hy => hx.2 ?_⟩
      rw [pk_app r (isDg_ne hy)]; exact hy
    unfold numEnd
    rw [hs, digits_app, if_neg hd1, hopen]
    rcases numDot_cases _ ho with ⟨hp, hp2, hdot⟩ | ⟨hp, hdot⟩
    · rw [hdot] at he
      obtain ⟨h2, h3⟩ := hx _ he
      have hda : numDot (digits (numSign cs) ++ r) = digits (digits (numSign cs)).tail ++ r := by
        unfold numDot
        rw [pk_app r hp0, pk_app r (isDg_ne hp2), if_pos ⟨hp, hp2⟩, tail_app r hp0, digits_app, if_neg h2]
      rw [hda, h3]
    · rw [hdot] at he
      obtain ⟨h2, h3⟩ := hx _ he
      rw [numDot_stop (by rw [pk_app r hp0]; exact hp), h3]

theorem counts_app {cs : List Int} (r : List Int) (h : counts (pk cs 0) (pk cs 1) (pk cs 2)) : counts (pk (cs ++ r) 0) (pk (cs ++ r) 1) (pk (cs ++ r) 2) := by
  have hn : ∀ i j, num2 (pk cs i) (pk cs j) → num2 (pk (cs ++ r) i) (pk (cs ++ r) j) := by
    intro i j h
    rcases h with h | ⟨h, h2⟩
    · left; rw [pk_app r (isDg_ne h)]; exact h
    · right; rw [pk_app r (by omega : pk cs i ≠ -1), pk_app r (isDg_ne h2)]; exact ⟨h, h2⟩
  rcases h with ⟨h, h2⟩ | ⟨h, h2⟩
  · left; rw [pk_app r (by omega : pk cs 0 ≠ -1)]; exact ⟨h, hn 1 2 h2⟩
  · right
    have h0 := isDg_of_num2 h2
    refine ⟨?_, hn 0 1 h2⟩
    rw [pk_app r h0]; exact h

theorem counts_first {a b c : Int} (h : counts a b c) : isDg a ∨ a = 43 ∨ a = 45 ∨ a = 46 := by
  unfold counts num2 isDg at h; unfold isDg; omega

/-- A text is one token, whole. -/
structure Lone (cs : List Int) (t : Tk) : Prop where
  com : ¬ (pk cs 0 = 47 ∧ pk cs 1 = 42)
  ne : pk cs 0 ≠ -1
  next : next cs = (t, false, [])

theorem comments_zero {ds : List Int} (h : (comments ds).1 = 0) : ¬ (pk ds 0 = 47 ∧ pk ds 1 = 42) := by
  intro hx
  unfold comments at h
  rw [dif_pos hx] at h
  split at h <;> simp at h

theorem lone_of_tokens {cs : List Int} {x : Tk × List Int × List Int} (hm : ∀ c ∈ cs, c ≠ -1) (hsuf : ∀ c ∈ (Css.next cs).2.2, c ∈ cs) (h : tokens cs = ([x], 0, false)) : Lone cs x.1 := by
  rw [tokens] at h
  split at h
  · simp at h
  · rename_i hne
    simp only [Prod.mk.injEq, List.cons.injEq] at h
    obtain ⟨⟨h1, h2⟩, h3, h4⟩ := h
    have hc : (comments cs).1 = 0 := by omega
    have hcom := comments_zero hc
    rw [comments_none hcom] at h1 h2 h3 h4 hne
    simp only [Bool.or_eq_false_iff] at h4
    have hr : (Css.next cs).2.2 = [] := by
      have ht : (comments (Css.next cs).2.2).1 = 0 := by
        rw [tokens] at h3; split at h3 <;> simp at h3 <;> omega
      have hcom2 := comments_zero ht
      rw [tokens] at h2
      split at h2
      · rename_i hp
        rw [comments_none hcom2] at hp
        exact nil_of_pk (fun c hc => hm c (hsuf c hc)) hp
      · simp at h2
    refine ⟨hcom, hne, ?_⟩
    rw [← h1]
    simp only
    rw [← hr, ← h4.1.2]

end Css
end Go.Proofs.YtkfdcbdlcipmfaaGreatFmt
/- PLAIN: what a text that is one token, whole, looks like; and each such token is read as itself ahead of whatever may stand behind it. No program in sight. -/
namespace Go.Proofs.YtkfdcbdlcipmfaaGreatFmt
namespace Css

theorem quotedRun_kind (q : Int) (ds : List Int) : (quotedRun q ds).1 = 36 ∨ (quotedRun q ds).1 = 2 := by
  fun_induction quotedRun q ds with
  | case6 ds h h2 h3 h4 h5 h6 r ih => exact ih
  | case7 ds h h2 h3 h4 h5 h6 r ih => exact ih
  | _ => first | assumption | simp
theorem url_kind (ds : List Int) : (url ds).1 = 37 ∨ (url ds).1 = 3 := by
  fun_induction url ds with
  | case6 ds h h2 h3 h4 h5 r ih => exact ih
  | case7 ds h h2 h3 h4 h5 r ih => exact ih
  | _ => first | assumption | simp
theorem named_kind (ds : List Int) : (named ds).1.kind = 29 ∨ (named ds).1.kind = 27 ∨ (named ds).1.kind = 37 ∨ (named ds).1.kind = 3 := by
  unfold named; simp only []
  repeat' split
  · simp
  · have := url_kind (spaces (name ds).2.2.tail); simp only []; omega
  · simp
theorem numeric_kind (ds : List Int) : (numeric ds).1.kind = 26 ∨ (numeric ds).1.kind = 34 ∨ (numeric ds).1.kind = 30 := by
  unfold numeric; simp only []
  repeat' split
  all_goals simp
theorem ite_ok {P : Int → Prop} {c : Prop} [Decidable c] {a b : Int} (h1 : P a) (h2 : P b) : P (if c then a else b) := by split <;> assumption
structure NotSign (k : Int) : Prop where
  out : k ≠ 30 ∧ k ≠ 34 ∧ k ≠ 26 ∧ k ≠ 4 ∧ k ≠ 5 ∧ k ≠ 1 ∧ k ≠ 38 ∧ k ≠ 36 ∧ k ≠ 28 ∧ k ≠ 29 ∧ k ≠ 27
theorem signKind_ne (c : Int) : NotSign (signKind c) := by
  unfold signKind
  repeat (refine ite_ok ⟨by decide⟩ ?_)
  exact ⟨by decide⟩

/-- What a text that is one token begins with, by the token's kind. -/
inductive LoneIs (cs : List Int) (t : Tk) : Prop
  | num : counts (pk cs 0) (pk cs 1) (pk cs 2) → numEnd cs = (false, []) → t = ⟨30, 0, []⟩ → LoneIs cs t
  | pct : counts (pk cs 0) (pk cs 1) (pk cs 2) → numEnd cs = (false, [37]) → t = ⟨34, 0, []⟩ → LoneIs cs t
  | cdc : cs = [45, 45, 62] → t = ⟨4, 0, []⟩ → LoneIs cs t
  | cdo : cs = [60, 33, 45, 45] → t = ⟨5, 0, []⟩ → LoneIs cs t
  | sign (c : Int) : cs = [c] → t = ⟨signKind c, 0, []⟩ → c ≠ -1 → ¬ isSp c → c ≠ 34 → c ≠ 39 → ¬ isDg c → ¬ starts c → c ≠ 92 → LoneIs cs t
  | other : t.kind ≠ 30 → t.kind ≠ 34 → t.kind ≠ 4 → t.kind ≠ 5 → (t.kind = 26 ∨ t.kind = 38 ∨ t.kind = 36 ∨ t.kind = 2 ∨ t.kind = 28 ∨ t.kind = 29 ∨ t.kind = 27 ∨ t.kind = 37 ∨ t.kind = 3 ∨ t.kind = 1) → LoneIs cs t

theorem tail_nil {cs : List Int} (h0 : pk cs 0 ≠ -1) (h : cs.tail = []) : cs = [pk cs 0] := by
  cases cs with
  | nil => simp at h0
  | cons c t => simp at h; subst h; simp

theorem lone_is {cs : List Int} {t : Tk} (hm : ∀ c ∈ cs, c ≠ -1) (h : Lone cs t) : LoneIs cs t := by
  have hn := h.next
  have h0 := h.ne
  unfold next at hn
  rw [if_neg h0] at hn
  split at hn
  · rw [← (Prod.mk.inj hn).1]; exact .other (by simp) (by simp) (by simp) (by simp) (by simp)
  rename_i hsp
  split at hn
  · have hk := quotedRun_kind (pk cs 0) cs.tail
    rw [← (Prod.mk.inj hn).1]
    refine .other ?_ ?_ ?_ ?_ ?_ <;> simp only [] <;> omega
  rename_i hq
  split at hn
  · rw [← (Prod.mk.inj hn).1]; exact .other (by simp) (by simp) (by simp) (by simp) (by simp)
  split at hn
  · rename_i hc
    unfold numeric at hn
    simp only [] at hn
    split at hn
    · rw [← (Prod.mk.inj hn).1]; exact .other (by simp) (by simp) (by simp) (by simp) (by simp)
    · split at hn
      · rename_i hp
        simp only [Prod.mk.injEq] at hn
        refine .pct hc ?_ hn.1.symm
        have h2 : (numEnd cs).2 = [37] := by
          have := tail_nil (by rw [hp]; decide) hn.2.2
          rw [this, hp]
        rw [← h2, ← hn.2.1]
      · simp only [Prod.mk.injEq] at hn
        refine .num hc ?_ hn.1.symm
        rw [← hn.2.1, ← hn.2.2]
  rename_i hc
  split at hn
  · rename_i hx
    simp only [Prod.mk.injEq] at hn
    refine .cdc ?_ hn.1.symm
    match cs, hn.2.2, hx with
    | [a, b, c], _, hx => simp at hx; simp [hx]
    | [a, b], _, hx => simp at hx
    | [a], _, hx => simp at hx
    | [], _, hx => simp at hx
  split at hn
  · have hk := named_kind cs
    have ht : t = (named cs).1 := by rw [hn]
    rw [← ht] at hk
    exact .other (by omega) (by omega) (by omega) (by omega) (by omega)
  rename_i hi
  split at hn
  · rename_i hx
    simp only [Prod.mk.injEq] at hn
    refine .cdo ?_ hn.1.symm
    match cs, hn.2.2, hx with
    | [a, b, c, d], _, hx => simp at hx; simp [hx]
    | [a, b, c], _, hx => simp at hx
    | [a, b], _, hx => simp at hx
    | [a], _, hx => simp at hx
    | [], _, hx => simp at hx
  split at hn
  · rw [← (Prod.mk.inj hn).1]; exact .other (by simp) (by simp) (by simp) (by simp) (by simp)
  simp only [Prod.mk.injEq] at hn
  have he := tail_nil h0 hn.2.2
  refine .sign (pk cs 0) he hn.1.symm h0 hsp (fun hx => hq (.inl hx)) (fun hx => hq (.inr hx)) ?_ ?_ ?_
  · intro hd; apply hc; right
    unfold isDg at hd
    exact ⟨by omega, .inl hd⟩
  · intro hs; apply hi; right
    refine ⟨?_, .inl hs⟩
    unfold starts at hs; omega
  · intro hb; apply hi; right
    rw [hb]
    refine ⟨by decide, .inr ⟨rfl, ?_⟩⟩
    rw [he]; simp [isNl]

/-! ### Numbers -/
structure NumStop (r : List Int) : Prop where
  dg : ¬ isDg (pk r 0)
  dot : pk r 0 ≠ 46
  st : ¬ starts (pk r 0)
  hy : pk r 0 ≠ 45
  bs : pk r 0 ≠ 92
  pc : pk r 0 ≠ 37
theorem NumStop.power {r : List Int} (h : NumStop r) : ¬ power r := by
  intro hp
  have h1 : pk r 0 = 101 ∨ pk r 0 = 69 := hp.1
  apply h.st
  unfold starts; omega
theorem NumStop.ident {r : List Int} (h : NumStop r) : ¬ ident3 (pk r 0) (pk r 1) (pk r 2) := by
  intro hi
  rcases hi with ⟨hi, _⟩ | ⟨_, hi | hi⟩
  · exact h.hy hi
  · exact h.st hi
  · exact h.bs hi.1

theorem numeric_head {ds : List Int} (hc : counts (pk ds 0) (pk ds 1) (pk ds 2)) : ¬ (pk ds 0 = 47 ∧ pk ds 1 = 42) ∧ pk ds 0 ≠ -1 ∧ next ds = numeric ds := by
  have hf := counts_first hc
  have e : pk ds 0 ≠ 47 ∧ pk ds 0 ≠ -1 ∧ ¬ isSp (pk ds 0) ∧ ¬ (pk ds 0 = 34 ∨ pk ds 0 = 39) ∧ pk ds 0 ≠ 35 := by
    unfold isDg at hf; unfold isSp isNl; omega
  refine ⟨fun hx => e.1 hx.1, e.2.1, ?_⟩
  unfold next
  rw [if_neg e.2.1, if_neg e.2.2.1, if_neg e.2.2.2.1, if_neg (fun hx => e.2.2.2.2 hx.1), if_pos hc]

theorem step_num {cs : List Int} (hm : ∀ c ∈ cs, c ≠ -1) (hc : counts (pk cs 0) (pk cs 1) (pk cs 2)) (he : numEnd cs = (false, [])) (r : List Int) (hs : NumStop r) : Step ⟨30, 0, []⟩ cs r := by
  have hne : cs ≠ [] := by rintro rfl; simp [counts, num2, isDg] at hc
  obtain ⟨h1, h2, h3⟩ := numeric_head (counts_app r hc)
  refine ⟨h1, h2, ?_⟩
  rw [h3]
  have hx : numEnd (cs ++ r) = (false, r) := by
    rcases numEnd_app hne he hm with ⟨_, h⟩ | ⟨_, h⟩
    · exact h r hs.dg hs.dot hs.power
    · exact h r hs.dg
  unfold numeric
  simp only [hx]
  rw [if_neg hs.ident, if_neg hs.pc]
theorem step_pct {cs : List Int} (hm : ∀ c ∈ cs, c ≠ -1) (hc : counts (pk cs 0) (pk cs 1) (pk cs 2)) (he : numEnd cs = (false, [37])) (r : List Int) : Step ⟨34, 0, []⟩ cs r := by
  obtain ⟨h1, h2, h3⟩ := numeric_head (counts_app r hc)
  refine ⟨h1, h2, ?_⟩
  rw [h3]
  unfold numeric
  simp only [numEnd_pct he hm r, pk_cons_zero]
  rw [if_neg (by unfold ident3 starts esc; omega), if_pos trivial]
  rfl
/-- A unit is printed in this mode behind a number. -/
def unitMode (cs : List Int) : Nat := if 101 ∈ cs ∨ 69 ∈ cs then 3 else 2
theorem step_dim (ascii may : Bool) {cs us : List Int} (hm : ∀ c ∈ cs, c ≠ -1) (hc : counts (pk cs 0) (pk cs 1) (pk cs 2)) (he : numEnd cs = (false, [])) (hg : Good ascii us) (hne : us ≠ []) (r : List Int) (hs : NameEnd may r) :
    Step ⟨26, cs.length, []⟩ (cs ++ ident ascii may (unitMode cs) us) r := by
  have hcs : cs ≠ [] := by rintro rfl; simp [counts, num2, isDg] at hc
  have e : cs ++ ident ascii may (unitMode cs) us ++ r = cs ++ (ident ascii may (unitMode cs) us ++ r) := by simp
  have hmode : unitMode cs ≠ 1 := by unfold unitMode; split <;> decide
  obtain ⟨i1, i2, i3, i4⟩ := ident_begins ascii may (unitMode cs) hmode us r hne hs
  obtain ⟨h1, h2, h3⟩ := numeric_head (counts_app (ident ascii may (unitMode cs) us ++ r) hc)
  have hdg : ¬ isDg (pk (ident ascii may (unitMode cs) us ++ r) 0) := by unfold starts at i4; unfold isDg; omega
  have hdot : pk (ident ascii may (unitMode cs) us ++ r) 0 ≠ 46 := by unfold starts at i4; omega
  have hx : numEnd (cs ++ (ident ascii may (unitMode cs) us ++ r)) = (false, ident ascii may (unitMode cs) us ++ r) := by
    rcases numEnd_app hcs he hm with ⟨h, h'⟩ | ⟨_, h⟩
    · have hmd : unitMode cs = 2 := by
        unfold unitMode
        rw [if_neg]
        rintro (hx | hx)
        · exact (h _ hx).1 rfl
        · exact (h _ hx).2 rfl
      refine h' _ hdg hdot ?_
      rw [hmd]
      exact unit_no_power ascii may us r hne hs
    · exact h _ hdg
  refine ⟨by rw [e]; exact h1, by rw [e]; exact h2, ?_⟩
  rw [e, h3]
  unfold numeric
  simp only [hx]
  rw [if_pos i1]
  simp only [name_ident ascii may _ us r hg hs.stop, Bool.or_false]
  simp

/-! ### Signs -/
/-- What may stand behind a sign. -/
def SignEnd (c : Int) (r : List Int) : Prop :=
  (c = 35 ∨ c = 43 ∨ c = 45 ∨ c = 46 ∨ c = 60 ∨ c = 64 ∨ c = 47) → (¬ cont (pk r 0) ∧ pk r 0 ≠ 92 ∧ pk r 0 ≠ 46 ∧ pk r 0 ≠ 33 ∧ pk r 0 ≠ 42)
theorem step_sign (c : Int) (h1 : c ≠ -1) (h2 : ¬ isSp c) (h3 : c ≠ 34) (h4 : c ≠ 39) (h5 : ¬ isDg c) (h6 : ¬ starts c) (h7 : c ≠ 92) (r : List Int) (hs : SignEnd c r) : Step ⟨signKind c, 0, []⟩ [c] r := by
  refine ⟨?_, by simpa using h1, ?_⟩
  · simp only [List.cons_append, List.nil_append, pk_cons_zero, pk_cons_one]
    rintro ⟨hx, hy⟩
    exact (hs (by omega)).2.2.2.2 hy
  · simp only [List.cons_append, List.nil_append]
    unfold next
    simp only [pk_cons_zero, pk_cons_one, pk_cons_two, pk_cons_three, List.tail_cons]
    rw [if_neg h1, if_neg h2, if_neg (by omega), if_neg, if_neg, if_neg, if_neg, if_neg, if_neg]
    · rintro ⟨hx, hy⟩
      have := hs (by omega)
      rcases cont_of_ident3 hy with hy | hy
      · exact this.1 hy
      · exact this.2.1 hy.1
    · rintro ⟨hx, hy, _⟩; exact (hs (by omega)).2.2.2.1 hy
    · rintro (⟨hx, hy⟩ | ⟨hx, hy | hy⟩)
      · have := hs (by omega)
        have h45 : ¬ starts (pk r 0) ∧ pk r 0 ≠ 45 := ⟨fun hz => this.1 (.inl hz), fun hz => this.1 (.inr (.inr hz))⟩
        rcases hy with hy | hy | hy
        · exact h45.1 hy
        · exact h45.2 hy
        · exact this.2.1 hy.1
      · exact h6 hy
      · exact h7 hy.1
    · rintro ⟨hx, hy, _⟩; exact (hs (by omega)).1 (.inr (.inr hy))
    · rintro (⟨hx, hy⟩ | ⟨hx, hy⟩)
      · have := hs (by omega)
        rcases hy with hy | ⟨hy, _⟩
        · exact this.1 (.inr (.inl hy))
        · exact this.2.2.1 hy
      · rcases hy with hy | ⟨hy, hz⟩
        · exact h5 hy
        · exact (hs (by omega)).1 (.inr (.inl hz))
    · rintro ⟨hx, hy⟩
      have := hs (by omega)
      rcases hy with hy | hy
      · exact this.1 hy
      · exact this.2.1 hy.1
theorem step_cdc (r : List Int) : Step ⟨4, 0, []⟩ [45, 45, 62] r := by
  refine ⟨by simp, by simp, ?_⟩
  simp only [List.cons_append, List.nil_append]
  unfold next
  simp [isSp, isNl, counts, num2, isDg]
theorem step_cdo (r : List Int) : Step ⟨5, 0, []⟩ [60, 33, 45, 45] r := by
  refine ⟨by simp, by simp, ?_⟩
  simp only [List.cons_append, List.nil_append]
  unfold next
  simp [isSp, isNl, counts, num2, isDg, ident3, starts, esc]

end Css
end Go.Proofs.YtkfdcbdlcipmfaaGreatFmt
