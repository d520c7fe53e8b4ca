/- Words for the walks: the printer in memory. -/
import Derived.Test.YtkfdcbdlcipmfaaGreatFmtProg
import Derived.Below
import Derived.Deep.Draws
import Derived.Deep.AppendLies
import Derived.Maps.AppendAt
import Derived.OwnWalk
import Derived.Laws.BytesArg
import Derived.Laws.MakeOwn
import Derived.Laws.OwnMore
import Derived.Deep.OwnRows
import Derived.Tactics
import Derived.Lib.ConvBytes
import Derived.Laws.Slices
import Derived.WalkKit
import Derived.KernelRfl
import Derived.RowKit3
import Derived.Deep.LoopGhost
import Derived.Deep.QuietTactic
import Derived.BigQuiet
import Derived.WideLaws
import Derived.Deep.DeepCutAuto
import Derived.Deep.CutBlock
import Derived.Deep.RegionHeld3
import Derived.Laws.Rows
import Derived.Lib.AppendStr
import Derived.ArgAppend
import Derived.Laws.IdiomCopy
import Derived.OrdersHeld
import Derived.Laws.BitsLemmas
import Derived.RowKit
import Derived.Outline
import Derived.WalkSpells
import Derived.WalkLawsBesides
import Derived.Lib.Hide
set_option linter.unusedVariables false
set_option linter.unusedSimpArgs false
namespace Go.Proofs.YtkfdcbdlcipmfaaGreatFmt
open Go.RowKit
theorem info5 : (Tryz.prog.info? 5).map (fun i => (i.zero, i.size, i.bytes)) = some (some (.int .u8 0), 1, 1) := by kernel_rfl
def IsBytes (o : Option Obj) : Prop := ∃ cs fr, o = some (.cells cs 5 fr)
structure Ke (B g : Nat) (w w' : World) : Prop where
  os : w'.os = w.os
  tape : w'.tape = w.tape
  output : w'.output = w.output
  size : w.heap.size ≤ w'.heap.size
  low : ∀ i, i < B → w'.heap[i]? = w.heap[i]?
  block : ∀ i, i < w.heap.size → i ≠ g → ¬ IsBytes w.heap[i]? → w'.heap[i]? = w.heap[i]?
theorem Ke.refl (B g : Nat) (w : World) : Ke B g w w := ⟨rfl, rfl, rfl, Nat.le_refl _, fun _ _ => rfl, fun _ _ _ _ => rfl⟩
theorem Ke.trans {B g : Nat} {a b c : World} (h : Ke B g a b) (k : Ke B g b c) : Ke B g a c :=
  ⟨k.os.trans h.os, k.tape.trans h.tape, k.output.trans h.output, Nat.le_trans h.size k.size, fun i hi => (k.low i hi).trans (h.low i hi),
   fun i hi hg hb => by
    have e := h.block i hi hg hb
    exact (k.block i (Nat.lt_of_lt_of_le hi h.size) hg (by rw [e]; exact hb)).trans e⟩
theorem Ke.drew {B g : Nat} {a w : World} (h : Ke B g a w) : Ke B g a w.drew := ⟨h.os, h.tape, h.output, h.size, h.low, h.block⟩
theorem Ke.drewN {B g : Nat} {a w : World} (h : Ke B g a w) (n : Nat) : Ke B g a (w.drewN n) := ⟨h.os, h.tape, h.output, h.size, h.low, h.block⟩
theorem Ke.alloc {B g : Nat} {a w : World} (h : Ke B g a w) (hB : B ≤ w.heap.size) (o : Obj) : Ke B g a (w.alloc o) :=
  h.trans ⟨rfl, rfl, rfl, by simp, fun i hi => Below.heap_alloc _ _ _ (by omega), fun i hi _ _ => Below.heap_alloc _ _ _ hi⟩
theorem Ke.setG {B g : Nat} {a w : World} (h : Ke B g a w) (hB : B ≤ g) (o : Nat) (u : Value) : Ke B g a (w.setCell ⟨g, o, none⟩ u) :=
  h.trans ⟨rfl, rfl, rfl, by simp [World.setCell], fun i hi => Below.heap_setCell _ _ _ _ (by simp; omega), fun i hi hg _ => Below.heap_setCell _ _ _ _ (by simpa using hg)⟩
theorem Ke.setNew {B g : Nat} {a w : World} (h : Ke B g a w) {p : Addr} (hp : a.heap.size ≤ p.block) (hB : B ≤ p.block) (u : Value) : Ke B g a (w.setCell p u) := by
  have e : ∀ i, i < a.heap.size → (w.setCell p u).heap[i]? = w.heap[i]? := fun i hi => Below.heap_setCell _ _ _ _ (by omega)
  exact ⟨h.os, h.tape, h.output, by have := h.size; simp [World.setCell]; omega, fun i hi => (Below.heap_setCell _ _ _ _ (by omega)).trans (h.low i hi), fun i hi hg hb => (e i hi).trans (h.block i hi hg hb)⟩
theorem Ke.grown {B g : Nat} {a w w' : World} {v : Value} {n : Nat} {xs : List Value} (h : Ke B g a w) (hg : w.grownBy w' v.ownBlock) (ho : w.ownsRow B 5 1 v n xs) (hB : B ≤ w.heap.size) : Ke B g a w' := by
  refine h.trans ⟨hg.os, hg.tape, hg.output, hg.size, fun i hi => hg.block i (by omega) ?_, fun i hi hne hb => hg.block i hi ?_⟩
  · rcases ho.2 with ⟨rfl, _⟩ | ⟨q, cap, cur, rfl, hq, hh, _⟩
    · simp [Value.ownBlock]
    · simp only [Value.ownBlock, ne_eq, Option.some.injEq]; omega
  · rcases ho.2 with ⟨rfl, _⟩ | ⟨q, cap, cur, rfl, hq, hh, _⟩
    · simp [Value.ownBlock]
    · simp only [Value.ownBlock, ne_eq, Option.some.injEq]
      rintro rfl
      exact hb ⟨cur, (0, 0), hh⟩
theorem Ke.of_below {B g : Nat} {w w' : World} (h : Below w.heap.size w w') (hB : B ≤ w.heap.size) : Ke B g w w' :=
  ⟨h.os, h.tape, h.output, h.size, fun i hi => h.block i (by omega), fun i hi _ _ => h.block i hi⟩
theorem Ke.cell {B g : Nat} {w w' : World} (h : Ke B g w w') {p : Addr} (hp : p.block < w.heap.size) (hg : p.block ≠ g) (hb : ¬ IsBytes w.heap[p.block]?) : w'.cell? p = w.cell? p := World.cell?_of_block (w := w) (h.block p.block hp hg hb)
structure PR (B g : Nat) (mini asc : Bool) (css : Value) (w : World) : Prop where
  lim : w.cell? ⟨g, 3, none⟩ = some (.int .i64 0)
  feat : w.cell? ⟨g, 5, none⟩ = some (.int .u16 0)
  mini : w.cell? ⟨g, 6, none⟩ = some (.bool mini)
  asc : w.cell? ⟨g, 7, none⟩ = some (.bool asc)
  maps : w.cell? ⟨g, 9, none⟩ = some (.bool false)
  legal : w.cell? ⟨g, 17, none⟩ = some (.slice none 0 0)
  metas : w.cell? ⟨g, 18, none⟩ = some (.slice none 0 0)
  css : w.cell? ⟨g, 15, none⟩ = some css
  free : w.frozen? ⟨g, 15, none⟩ = false
  base : B ≤ g
  notb : ¬ IsBytes w.heap[g]?
theorem PR.same {B g : Nat} {mini asc : Bool} {css : Value} {w w' : World} (h : PR B g mini asc css w) (hs : w'.heap[g]? = w.heap[g]?) : PR B g mini asc css w' := by
  have hc : ∀ o, w'.cell? ⟨g, o, none⟩ = w.cell? ⟨g, o, none⟩ := fun o => World.cell?_of_block (w := w) (a := ⟨g, o, none⟩) hs
  exact ⟨(hc _).trans h.lim, (hc _).trans h.feat, (hc _).trans h.mini, (hc _).trans h.asc, (hc _).trans h.maps, (hc _).trans h.legal, (hc _).trans h.metas, (hc _).trans h.css, (World.frozen?_of_block (w := w) (a := ⟨g, 15, none⟩) hs).trans h.free, h.base, by rw [hs]; exact h.notb⟩
theorem PR.lt {B g : Nat} {mini asc : Bool} {css : Value} {w : World} (h : PR B g mini asc css w) : g < w.heap.size := World.block_lt_of_cell? w _ h.lim
theorem own_not_g {B g : Nat} {mini asc : Bool} {css v : Value} {w : World} {n : Nat} {xs : List Value} (h : PR B g mini asc css w) (ho : w.ownsRow B 5 1 v n xs) : some g ≠ v.ownBlock := by
  rcases ho.2 with ⟨rfl, _⟩ | ⟨q, cap, cur, rfl, hq, hh, _⟩
  · simp [Value.ownBlock]
  · simp only [Value.ownBlock, ne_eq, Option.some.injEq]
    rintro rfl
    exact h.notb ⟨cur, (0, 0), hh⟩
theorem PR.grown {B g : Nat} {mini asc : Bool} {css v : Value} {w w1 : World} {n : Nat} {xs : List Value} (h : PR B g mini asc css w) (ho : w.ownsRow B 5 1 v n xs) (hg : w.grownBy w1 v.ownBlock) : PR B g mini asc css w1 :=
  h.same (hg.block g h.lt (own_not_g h ho))
theorem own_slice {w : World} {base n : Nat} {e : TypeId} {size : Nat} {v : Value} {xs : List Value} (h : w.ownsRow base e size v n xs) : ∃ A c, v = .slice A n c := by
  rcases h.2 with ⟨rfl, rfl⟩ | ⟨g, cap, cur, rfl, _⟩
  · exact ⟨none, 0, rfl⟩
  · exact ⟨_, cap, rfl⟩
theorem isBytes_setCell {w : World} {a : Addr} {v : Value} {i : Nat} : IsBytes (w.setCell a v).heap[i]? ↔ IsBytes w.heap[i]? := by
  unfold IsBytes
  simp only [World.setCell, Array.getElem?_modify]
  split
  · subst_vars
    cases h : w.heap[a.block]? with
    | none => simp
    | some o => cases o <;> simp
  · rfl
theorem PR.store {B g : Nat} {mini asc : Bool} {css : Value} {w : World} (h : PR B g mini asc css w) (v : Value) : PR B g mini asc v (w.setCell ⟨g, 15, none⟩ v) := by
  have hc : ∀ o x, o ≠ 15 → w.cell? ⟨g, o, none⟩ = some x → (w.setCell ⟨g, 15, none⟩ v).cell? ⟨g, o, none⟩ = some x := fun o x ho hx =>
    (World.cell?_setCell_other _ _ _ _ (by intro e; injection e with _ e2; omega)).trans hx
  exact ⟨hc _ _ (by decide) h.lim, hc _ _ (by decide) h.feat, hc _ _ (by decide) h.mini, hc _ _ (by decide) h.asc, hc _ _ (by decide) h.maps, hc _ _ (by decide) h.legal, hc _ _ (by decide) h.metas, World.cell?_setCell_same _ _ _ h.css, by rw [World.frozen?_setCell]; exact h.free, h.base, fun hb => h.notb (isBytes_setCell.1 hb)⟩
theorem own_store {B g : Nat} {mini asc : Bool} {css v u : Value} {w : World} {n : Nat} {xs : List Value} (h : PR B g mini asc css w) (ho : w.ownsRow B 5 1 v n xs) : (w.setCell ⟨g, 15, none⟩ u).ownsRow B 5 1 v n xs := by
  have hne := own_not_g h ho
  obtain ⟨h1, h2⟩ := ho
  refine ⟨h1, ?_⟩
  rcases h2 with h2 | ⟨q, cap, cur, hv, hg, hh, r⟩
  · exact Or.inl h2
  · refine Or.inr ⟨q, cap, cur, hv, hg, ?_, r⟩
    rw [Below.heap_setCell _ _ _ _ (by rw [hv] at hne; simp [Value.ownBlock] at hne; simp; omega)]; exact hh
def bv (l : List UInt8) : List Value := l.map fun b => Value.int .u8 b.toNat
theorem bv_length (l : List UInt8) : (bv l).length = l.length := by simp [bv]
theorem bv_append (a b : List UInt8) : bv (a ++ b) = bv a ++ bv b := by simp [bv]
structure St (B g : Nat) (mini asc : Bool) (bs : List UInt8) (w : World) : Prop where
  out : ∃ v, PR B g mini asc v w ∧ w.ownsRow B 5 1 v bs.length (bv bs)
  base : B ≤ w.heap.size
theorem info_parts5 : ∃ i, Tryz.prog.info? 5 = some i ∧ i.zero = some (.int .u8 0) ∧ i.size = 1 ∧ i.bytes = 1 := by
  obtain ⟨i, hi, hz⟩ := Option.map_eq_some_iff.1 info5
  simp only [Prod.mk.injEq] at hz
  exact ⟨i, hi, hz.1, hz.2.1, hz.2.2⟩
end Go.Proofs.YtkfdcbdlcipmfaaGreatFmt
namespace Go.Proofs.YtkfdcbdlcipmfaaGreatFmt
open Go.RowKit
structure Put (B g : Nat) (mini asc : Bool) (bs : List UInt8) (w w' : World) : Prop where
  st : St B g mini asc bs w'
  ke : Ke B g w w'
theorem Put.trans {B g : Nat} {mini asc : Bool} {bs bs' : List UInt8} {a b c : World} (h : Put B g mini asc bs a b) (k : Put B g mini asc bs' b c) : Put B g mini asc bs' a c := ⟨k.st, h.ke.trans k.ke⟩
set_option maxHeartbeats 400000 in
set_option maxRecDepth 100000 in
theorem print_any (B g : Nat) (mini asc : Bool) (s : ByteArray) (w : World) (bs : List UInt8) (hs : St B g mini asc bs w) (hl : bs.length + s.size ≤ 140737488355328) :
    Calls Tryz.prog 75 #[.pointer (some ⟨g, 0, none⟩), .string s] w fun e w' => e = .returned (.tuple #[]) ∧ Put B g mini asc (bs ++ s.data.toList) w w' := by
  obtain ⟨⟨v, hp, ho⟩, hB⟩ := hs
  have hc := hp.css
  have hf := hp.free
  have Hp := Lib.hid hp
  clear hp
  have Ho := Lib.hid ho
  clear ho
  obtain ⟨i5, hi, hz0, hz1, hz2⟩ := info_parts5
  have HI := Lib.hid hi
  have HZ0 := Lib.hid hz0
  have HZ1 := Lib.hid hz1
  have HZ2 := Lib.hid hz2
  clear hi hz0 hz1 hz2
  go_enter Tryz.func75, Tryz.ntmps75
  go_wp2_with ((at_builtin; go_must (refine Lib.wpList_append_own_string _ rfl _ _ 117 9 rfl B 5 i5 Tryz.underlying117 Tryz.underlying9 HI.out HZ0.out HZ1.out HZ2.out _ _ _ rfl Ho.out s rfl ?c1 ?c2 ?c3 ?_; (case c1 => unfold maxLen; omega); (case c2 => omega); (case c3 => omega); intro v1 w1 hown hg _; obtain ⟨A1, c1, rfl⟩ := own_slice hown; have hg1 : Hid (w.grownBy w1 v.ownBlock) := hg; clear hg; have hp1 := PR.grown Hp.out Ho.out hg1.out; have hc1 := hp1.css; have hf1 := hp1.free; have Hp1 := Lib.hid hp1; clear hp1; have Hown := Lib.hid hown; clear hown)))
  go_end0
  have hown := Hown.out
  have hp1 := Hp1.out
  have hk := (Ke.refl B g w).grown hg1.out Ho.out hB
  refine ⟨rfl, ⟨⟨_, hp1.store _, ?_⟩, ?_⟩, hk.setG hp1.base _ _⟩
  · have := own_store hp1 hown (u := .slice A1 (bs.length + s.size) c1)
    rw [bv_append, List.length_append]
    simpa [bv, Lib.strCells] using this
  · have := hk.size
    simp [World.setCell]; omega
end Go.Proofs.YtkfdcbdlcipmfaaGreatFmt
namespace Go.Proofs.YtkfdcbdlcipmfaaGreatFmt
open Go.RowKit
theorem put_of_store {B g : Nat} {mini asc : Bool} {bs : List UInt8} {w w1 : World} {v v1 : Value} {s : List UInt8} {n : Nat} (hp : PR B g mini asc v w) (ho : w.ownsRow B 5 1 v bs.length (bv bs)) (hB : B ≤ w.heap.size)
    (hg : w.grownBy w1 v.ownBlock) (hown : w1.ownsRow B 5 1 v1 n (bv bs ++ bv s)) (hn : n = bs.length + s.length) : Put B g mini asc (bs ++ s) w (w1.setCell ⟨g, 15, none⟩ v1) := by
  subst hn
  have hp1 := PR.grown hp ho hg
  have hk := (Ke.refl B g w).grown hg ho hB
  refine ⟨⟨⟨_, hp1.store _, ?_⟩, ?_⟩, hk.setG hp1.base _ _⟩
  · have := own_store hp1 hown (u := v1)
    rw [bv_append, List.length_append]
    exact this
  · have := hk.size
    simp [World.setCell]; omega
theorem rep_succ (k : Nat) : List.replicate (2 * (k + 1)) (32 : UInt8) = List.replicate (2 * k) 32 ++ [32, 32] := by
  rw [show 2 * (k + 1) = 2 * k + 2 by omega, ← List.replicate_append_replicate]; rfl
set_option maxHeartbeats 400000 in
set_option maxRecDepth 100000 in
theorem printIndent_any (B g : Nat) (mini asc : Bool) (m : Nat) (hm : m ≤ 1000) (w : World) (bs : List UInt8) (hs : St B g mini asc bs w) (hl : bs.length + 2 * m ≤ 140737488355328) :
    Calls Tryz.prog 74 #[.pointer (some ⟨g, 0, none⟩), .int .i32 m] w fun e w' => e = .returned (.tuple #[]) ∧ Put B g mini asc (bs ++ List.replicate (2 * m) 32) w w' := by
  have HS := Lib.hid hs
  have hlim : w.cell? ⟨g, 3, none⟩ = some (.int .i64 0) := by obtain ⟨⟨v, hp, _⟩, _⟩ := hs; exact hp.lim
  clear hs
  obtain ⟨i5, hi, hz0, hz1, hz2⟩ := info_parts5
  have HI := Lib.hid hi
  have HZ0 := Lib.hid hz0
  have HZ1 := Lib.hid hz1
  have HZ2 := Lib.hid hz2
  clear hi hz0 hz1 hz2
  go_enter Tryz.func74, Tryz.ntmps74
  go_wp2
  go_loopw [5] (fun i wr => ∃ k : Nat, k ≤ m ∧ i = .int .i64 k ∧ Hid (Put B g mini asc (bs ++ List.replicate (2 * k) 32) w wr)) (fun i _ => m - (intOf i).toNat)
  case atStart => exact ⟨0, Nat.zero_le _, rfl, by simp; exact ⟨HS.out, Ke.refl _ _ _⟩⟩
  case round =>
    obtain ⟨k, hk, rfl, HP⟩ := hrel
    by_cases hlt : k < m
    · obtain ⟨⟨v, hp, ho⟩, hB⟩ := HP.out.st
      have hc := hp.css
      have hf := hp.free
      have Hp := Lib.hid hp
      clear hp
      have Ho := Lib.hid ho
      clear ho
      have hlen : (bs ++ List.replicate (2 * k) (32 : UInt8)).length = bs.length + 2 * k := by simp
      have HL := Lib.hid hlen
      clear hlen
      go_wp2_with ((at_builtin; go_must (refine Lib.wpList_append_own_string _ rfl _ _ 117 9 rfl B 5 i5 Tryz.underlying117 Tryz.underlying9 HI.out HZ0.out HZ1.out HZ2.out _ _ _ rfl Ho.out ⟨#[32, 32]⟩ rfl ?c1 ?c2 ?c3 ?_; (case c1 => rw [HL.out]; show _ + 2 ≤ _; unfold maxLen; omega); (case c2 => rw [HL.out]; show _ + 2 ≤ _; omega); (case c3 => omega); intro v1 w1 hown hg _; obtain ⟨A1, c1, rfl⟩ := own_slice hown; have hg1 : Hid (wr.grownBy w1 v.ownBlock) := hg; clear hg; have hp1 := PR.grown Hp.out Ho.out hg1.out; have hc1 := hp1.css; have hf1 := hp1.free; have Hp1 := Lib.hid hp1; clear hp1; have Hown := Lib.hid hown; clear hown)))
      go_roundw
      case rel => exact ⟨k + 1, by omega, by go_num, by
        have ho2 := Hown.out
        rw [HL.out] at ho2
        rw [rep_succ, ← List.append_assoc]
        exact HP.out.trans (put_of_store (s := [32, 32]) (n := bs.length + 2 * k + 2) Hp.out Ho.out hB hg1.out ho2 (by rw [HL.out]; rfl))⟩
      case measure => simp [intOf]; omega
    · obtain rfl : k = m := by omega
      go_wp2
      go_end0
      exact ⟨rfl, HP.out⟩
end Go.Proofs.YtkfdcbdlcipmfaaGreatFmt
namespace Go.Proofs.YtkfdcbdlcipmfaaGreatFmt
namespace Css
def pk (ds : List Int) (k : Nat) : Int := ds.getD k (-1)
@[simp] theorem pk_nil (k : Nat) : pk [] k = -1 := by simp [pk]
@[simp] theorem pk_cons_zero (c : Int) (ds : List Int) : pk (c :: ds) 0 = c := by simp [pk]
@[simp] theorem pk_cons_succ (c : Int) (ds : List Int) (k : Nat) : pk (c :: ds) (k + 1) = pk ds k := by simp [pk]
@[simp] theorem pk_cons_one (c : Int) (ds : List Int) : pk (c :: ds) 1 = pk ds 0 := pk_cons_succ c ds 0
@[simp] theorem pk_cons_two (c : Int) (ds : List Int) : pk (c :: ds) 2 = pk ds 1 := pk_cons_succ c ds 1
@[simp] theorem pk_cons_three (c : Int) (ds : List Int) : pk (c :: ds) 3 = pk ds 2 := pk_cons_succ c ds 2
def isNl (c : Int) : Prop := c = 10 ∨ c = 13 ∨ c = 12
instance (c : Int) : Decidable (isNl c) := by unfold isNl; infer_instance
def isSp (c : Int) : Prop := isNl c ∨ c = 9 ∨ c = 32
instance (c : Int) : Decidable (isSp c) := by unfold isSp; infer_instance
def isDg (c : Int) : Prop := 48 ≤ c ∧ c ≤ 57
instance (c : Int) : Decidable (isDg c) := by unfold isDg; infer_instance
def starts (c : Int) : Prop := (97 ≤ c ∧ c ≤ 122) ∨ (65 ≤ c ∧ c ≤ 90) ∨ c = 95 ∨ 128 ≤ c
instance (c : Int) : Decidable (starts c) := by unfold starts; infer_instance
def cont (c : Int) : Prop := starts c ∨ isDg c ∨ c = 45
instance (c : Int) : Decidable (cont c) := by unfold cont; infer_instance
def esc (a b : Int) : Prop := a = 92 ∧ ¬ isNl b
instance (a b : Int) : Decidable (esc a b) := by unfold esc; infer_instance
def ident3 (a b c : Int) : Prop := (a = 45 ∧ (starts b ∨ b = 45 ∨ esc b c)) ∨ (a ≠ 45 ∧ (starts a ∨ esc a b))
instance (a b c : Int) : Decidable (ident3 a b c) := by unfold ident3; infer_instance
def num2 (a b : Int) : Prop := isDg a ∨ (a = 46 ∧ isDg b)
instance (a b : Int) : Decidable (num2 a b) := by unfold num2; infer_instance
def counts (a b c : Int) : Prop := ((a = 43 ∨ a = 45) ∧ num2 b c) ∨ (¬ (a = 43 ∨ a = 45) ∧ num2 a b)
instance (a b c : Int) : Decidable (counts a b c) := by unfold counts; infer_instance
def hexv (c : Int) : Int := if 48 ≤ c ∧ c ≤ 57 then c - 48 else if 97 ≤ c ∧ c ≤ 102 then c - 97 + 10 else if 65 ≤ c ∧ c ≤ 70 then c - 65 + 10 else -1
def isHex (c : Int) : Prop := (48 ≤ c ∧ c ≤ 57) ∨ (97 ≤ c ∧ c ≤ 102) ∨ (65 ≤ c ∧ c ≤ 70)
instance (c : Int) : Decidable (isHex c) := by unfold isHex; infer_instance
theorem hexv_hex {c : Int} : 0 ≤ hexv c ↔ isHex c := by unfold hexv isHex; split <;> (try split) <;> (try split) <;> omega
theorem hexv_neg {c : Int} : hexv c < 0 ↔ ¬ isHex c := by rw [← hexv_hex]; omega
def unpr (c : Int) : Prop := (0 ≤ c ∧ c ≤ 8) ∨ c = 11 ∨ (14 ≤ c ∧ c ≤ 31) ∨ c = 127
instance (c : Int) : Decidable (unpr c) := by unfold unpr; infer_instance
def hexRun : Nat → Int → List Int → Int × List Int
  | 0, v, ds => (v, ds)
  | n + 1, v, ds => if 0 ≤ hexv (pk ds 0) then hexRun n (v * 16 + hexv (pk ds 0)) ds.tail else (v, ds)
theorem hexRun_len (n : Nat) : ∀ (v : Int) (ds : List Int), (hexRun n v ds).2.length ≤ ds.length := by
  induction n with
  | zero => intro v ds; simp [hexRun]
  | succ n ih =>
    intro v ds
    unfold hexRun
    split
    · have := ih (v * 16 + hexv (pk ds 0)) ds.tail
      have h2 := List.length_tail (l := ds)
      omega
    · simp
def newline (ds : List Int) : List Int := if pk ds 0 = 13 ∧ pk ds.tail 0 = 10 then ds.tail.tail else ds.tail
theorem newline_len (ds : List Int) : (newline ds).length ≤ ds.length - 1 := by
  unfold newline; split <;> simp <;> omega
def fixv (v : Int) : Int := if v = 0 ∨ v > 1114111 ∨ (55296 ≤ v ∧ v < 57344) then 65533 else v
def escape (ds : List Int) : Int × Bool × List Int :=
  if hexv (pk ds 0) < 0 then
    if pk ds 0 = -1 then (65533, true, ds.tail) else (pk ds 0, false, ds.tail)
  else if isNl (pk (hexRun 6 0 ds).2 0) then (fixv (hexRun 6 0 ds).1, true, newline (hexRun 6 0 ds).2)
  else if isSp (pk (hexRun 6 0 ds).2 0) then (fixv (hexRun 6 0 ds).1, false, (hexRun 6 0 ds).2.tail)
  else (fixv (hexRun 6 0 ds).1, false, (hexRun 6 0 ds).2)
theorem escape_len (ds : List Int) : (escape ds).2.2.length ≤ ds.length := by
  have h1 := hexRun_len 6 0 ds
  have h2 := newline_len (hexRun 6 0 ds).2
  have h3 := List.length_tail (l := ds)
  have h4 := List.length_tail (l := (hexRun 6 0 ds).2)
  unfold escape
  repeat' split
  all_goals simp only []
  all_goals omega
theorem not_cont_end : ¬ cont (-1) := by unfold cont starts isDg; omega
theorem ne_nil_of_pk {ds : List Int} (h : pk ds 0 ≠ -1) : ds ≠ [] := by rintro rfl; simp at h
theorem len_of_pk {ds : List Int} (h : pk ds 0 ≠ -1) : 0 < ds.length := List.length_pos_iff.2 (ne_nil_of_pk h)
theorem pk_ne_of_cont {c : Int} (h : cont c) : c ≠ -1 := by rintro rfl; exact not_cont_end h
def name (ds : List Int) : List Int × Bool × List Int :=
  if _h : cont (pk ds 0) then (pk ds 0 :: (name ds.tail).1, (name ds.tail).2.1, (name ds.tail).2.2)
  else if _h2 : esc (pk ds 0) (pk ds 1) then
    ((escape ds.tail).1 :: (name (escape ds.tail).2.2).1, (escape ds.tail).2.1 || (name (escape ds.tail).2.2).2.1, (name (escape ds.tail).2.2).2.2)
  else ([], false, ds)
 termination_by ds.length
 decreasing_by
  all_goals
    first
    | (have := len_of_pk (pk_ne_of_cont _h); simp; omega)
    | (have h0 : 0 < ds.length := len_of_pk (by rw [_h2.1]; decide)
       have := escape_len ds.tail
       have h3 := List.length_tail (l := ds)
       omega)
def digits : List Int → List Int
  | [] => []
  | c :: ds => if isDg c then digits ds else c :: ds
structure Tk where
  kind : Int
  unit : Nat
  text : List Int
 deriving DecidableEq
def numDot (d1 : List Int) : List Int := if pk d1 0 = 46 ∧ isDg (pk d1 1) then digits d1.tail else d1
def numExp (d2 : List Int) : List Int :=
  if (pk d2 0 = 101 ∨ pk d2 0 = 69) ∧ (isDg (pk d2 1) ∨ ((pk d2 1 = 43 ∨ pk d2 1 = 45) ∧ isDg (pk d2 2))) then digits d2.tail.tail else d2
def numSign (ds : List Int) : List Int := if pk ds 0 = 43 ∨ pk ds 0 = 45 then ds.tail else ds
def numOpen (d1 : List Int) : Bool := decide (pk d1 0 = 46 ∧ ¬ isDg (pk d1 1))
def numEnd (ds : List Int) : Bool × List Int := (numOpen (digits (numSign ds)), numExp (numDot (digits (numSign ds))))
def numeric (ds : List Int) : Tk × Bool × List Int :=
  let e := numEnd ds
  if ident3 (pk e.2 0) (pk e.2 1) (pk e.2 2) then (⟨26, ds.length - e.2.length, []⟩, e.1 || (name e.2).2.1, (name e.2).2.2)
  else if pk e.2 0 = 37 then (⟨34, 0, []⟩, e.1, e.2.tail)
  else (⟨30, 0, []⟩, e.1, e.2)
def spaces : List Int → List Int
  | [] => []
  | c :: ds => if isSp c then spaces ds else c :: ds
theorem spaces_len (ds : List Int) : (spaces ds).length ≤ ds.length := by
  induction ds with
  | nil => simp [spaces]
  | cons c ds ih => unfold spaces; split <;> simp <;> omega
def badURL (ds : List Int) : Bool × List Int :=
  if pk ds 0 = 41 then (false, ds.tail)
  else if _h : pk ds 0 = -1 then (true, ds.tail)
  else if esc (pk ds 0) (pk ds.tail 0) then ((escape ds.tail).2.1 || (badURL (escape ds.tail).2.2).1, (badURL (escape ds.tail).2.2).2)
  else badURL ds.tail
 termination_by ds.length
 decreasing_by
  all_goals
    have h0 := len_of_pk _h
    have := escape_len ds.tail
    have h3 := List.length_tail (l := ds)
    omega
def url (ds : List Int) : Int × List Int × Bool × List Int :=
  if pk ds 0 = 41 then (37, [], false, ds.tail)
  else if _h : pk ds 0 = -1 then (37, [], true, ds)
  else if _hs : isSp (pk ds 0) then
    if pk (spaces ds) 0 ≠ 41 ∧ pk (spaces ds) 0 ≠ -1 then (3, [], (badURL (spaces ds)).1, (badURL (spaces ds)).2) else url (spaces ds)
  else if pk ds 0 = 34 ∨ pk ds 0 = 39 ∨ pk ds 0 = 40 ∨ unpr (pk ds 0) ∨ (pk ds 0 = 92 ∧ ¬ esc (pk ds 0) (pk ds 1)) then (3, [], (badURL ds).1, (badURL ds).2)
  else if pk ds 0 = 92 then
    let r := url (escape ds.tail).2.2
    (r.1, (if r.1 = 37 then (escape ds.tail).1 :: r.2.1 else []), (escape ds.tail).2.1 || r.2.2.1, r.2.2.2)
  else
    let r := url ds.tail
    (r.1, (if r.1 = 37 then pk ds 0 :: r.2.1 else []), r.2.2.1, r.2.2.2)
 termination_by ds.length
 decreasing_by
  · have h0 := len_of_pk _h
    match ds, _hs with
    | c :: t, hs =>
      have := spaces_len t
      unfold spaces
      rw [if_pos (by simpa using hs)]
      simp
      omega
  all_goals
    have h0 := len_of_pk _h
    have := escape_len ds.tail
    have h3 := List.length_tail (l := ds)
    omega
def by8 (c : Int) : UInt8 := UInt8.ofNat (c % 256).toNat
def enc1 (c : Int) : List UInt8 :=
  if c < 128 then [by8 c]
  else if c < 2048 then [by8 (192 + c / 64), by8 (128 + c % 64)]
  else if c < 65536 then [by8 (224 + c / 4096), by8 (128 + c / 64 % 64), by8 (128 + c % 64)]
  else [by8 (240 + c / 262144), by8 (128 + c / 4096 % 64), by8 (128 + c / 64 % 64), by8 (128 + c % 64)]
def enc (l : List Int) : List UInt8 := l.flatMap enc1
@[simp] theorem enc_nil : enc [] = [] := rfl
theorem enc_cons (c : Int) (l : List Int) : enc (c :: l) = enc1 c ++ enc l := rfl
theorem enc_append (a b : List Int) : enc (a ++ b) = enc a ++ enc b := by simp [enc]
def isUrlB (s : List UInt8) : Bool :=
  match s with
  | [a, b, c] => (a == 117 || a == 85) && (b == 114 || b == 82) && (c == 108 || c == 76)
  | _ => false
def spB (b : UInt8) : Bool := b == 10 || b == 13 || b == 12 || b == 9 || b == 32
def trimmedB (s : List UInt8) : Bool := s.isEmpty || (!spB (s.headD 0) && !spB (s.getLastD 0))
def named (ds : List Int) : Tk × Bool × List Int :=
  let n := name ds
  if pk n.2.2 0 ≠ 40 then (⟨29, 0, n.1⟩, n.2.1, n.2.2)
  else if isUrlB (enc n.1) = true ∧ pk (spaces n.2.2.tail) 0 ≠ 34 ∧ pk (spaces n.2.2.tail) 0 ≠ 39 then
    let u := url (spaces n.2.2.tail)
    (⟨u.1, 0, u.2.1⟩, n.2.1 || u.2.2.1 || decide (ds.length - n.2.2.length ≠ 3) || !trimmedB (enc u.2.1), u.2.2.2)
  else (⟨27, 0, n.1⟩, n.2.1, n.2.2.tail)
def quotedRun (q : Int) (ds : List Int) : Int × List Int × Bool × List Int :=
  if pk ds 0 = q then (36, [], false, ds.tail)
  else if _h : pk ds 0 = -1 then (36, [], true, ds)
  else if isNl (pk ds 0) then (2, [], false, ds)
  else if pk ds 0 = 92 ∧ pk ds 1 = -1 then quotedRun q ds.tail
  else if pk ds 0 = 92 ∧ isNl (pk ds 1) then quotedRun q (newline ds.tail)
  else if pk ds 0 = 92 then
    let r := quotedRun q (escape ds.tail).2.2
    (r.1, (if r.1 = 36 then (escape ds.tail).1 :: r.2.1 else []), (escape ds.tail).2.1 || r.2.2.1, r.2.2.2)
  else
    let r := quotedRun q ds.tail
    (r.1, (if r.1 = 36 then pk ds 0 :: r.2.1 else []), r.2.2.1, r.2.2.2)
 termination_by ds.length
 decreasing_by
  all_goals
    have h0 := len_of_pk _h
    have := escape_len ds.tail
    have h5 := newline_len ds.tail
    have h3 := List.length_tail (l := ds)
    omega
def comEnd (ds : List Int) : Bool × List Int :=
  if pk ds 0 = 42 ∧ pk ds 1 = 47 then (false, ds.tail.tail)
  else match ds with
    | [] => (true, [])
    | _ :: t => comEnd t
theorem comEnd_len (ds : List Int) : (comEnd ds).2.length ≤ ds.length := by
  induction ds with
  | nil => unfold comEnd; split <;> simp
  | cons c t ih => unfold comEnd; split <;> simp <;> omega
def comments (ds : List Int) : Nat × Bool × List Int :=
  if _h : pk ds 0 = 47 ∧ pk ds 1 = 42 then
    if (comEnd ds.tail.tail).1 then (1, true, (comEnd ds.tail.tail).2)
    else ((comments (comEnd ds.tail.tail).2).1 + 1, (comments (comEnd ds.tail.tail).2).2.1, (comments (comEnd ds.tail.tail).2).2.2)
  else (0, false, ds)
 termination_by ds.length
 decreasing_by
  all_goals
    have h0 := len_of_pk (ds := ds) (by rw [_h.1]; decide)
    have := comEnd_len ds.tail.tail
    have h3 := List.length_tail (l := ds)
    have h4 := List.length_tail (l := ds.tail)
    omega
def signKind (c : Int) : Int :=
  if c = 123 then 31 else if c = 125 then 6 else if c = 91 then 32 else if c = 93 then 7 else if c = 40 then 33 else if c = 41 then 8
  else if c = 58 then 9 else if c = 59 then 35 else if c = 44 then 10 else if c = 38 then 12 else if c = 42 then 13 else if c = 124 then 14
  else if c = 94 then 15 else if c = 36 then 16 else if c = 46 then 17 else if c = 61 then 18 else if c = 33 then 19 else if c = 62 then 20
  else if c = 60 then 21 else if c = 45 then 22 else if c = 43 then 23 else if c = 47 then 24 else if c = 126 then 25 else 11
def next (ds : List Int) : Tk × Bool × List Int :=
  if pk ds 0 = -1 then (⟨0, 0, []⟩, false, ds)
  else if isSp (pk ds 0) then (⟨38, 0, []⟩, false, spaces ds)
  else if pk ds 0 = 34 ∨ pk ds 0 = 39 then
    let q := quotedRun (pk ds 0) ds.tail
    (⟨q.1, 0, q.2.1⟩, q.2.2.1, q.2.2.2)
  else if pk ds 0 = 35 ∧ (cont (pk ds 1) ∨ esc (pk ds 1) (pk ds 2)) then (⟨28, 0, (name ds.tail).1⟩, (name ds.tail).2.1, (name ds.tail).2.2)
  else if counts (pk ds 0) (pk ds 1) (pk ds 2) then numeric ds
  else if pk ds 0 = 45 ∧ pk ds 1 = 45 ∧ pk ds 2 = 62 then (⟨4, 0, []⟩, false, ds.tail.tail.tail)
  else if ident3 (pk ds 0) (pk ds 1) (pk ds 2) then named ds
  else if pk ds 0 = 60 ∧ pk ds 1 = 33 ∧ pk ds 2 = 45 ∧ pk ds 3 = 45 then (⟨5, 0, []⟩, false, ds.tail.tail.tail.tail)
  else if pk ds 0 = 64 ∧ ident3 (pk ds 1) (pk ds 2) (pk ds 3) then (⟨1, 0, (name ds.tail).1⟩, (name ds.tail).2.1, (name ds.tail).2.2)
  else (⟨signKind (pk ds 0), 0, []⟩, false, ds.tail)
theorem name_len (ds : List Int) : (name ds).2.2.length ≤ ds.length := by
  fun_induction name ds with
  | case1 ds h ih => simp only []; have := List.length_tail (l := ds); omega
  | case2 ds h h2 ih => simp only []; have := List.length_tail (l := ds); have := escape_len ds.tail; omega
  | case3 => simp
theorem digits_len (ds : List Int) : (digits ds).length ≤ ds.length := by
  induction ds with
  | nil => simp [digits]
  | cons c ds ih => unfold digits; split <;> simp <;> omega
theorem badURL_len (ds : List Int) : (badURL ds).2.length ≤ ds.length := by
  fun_induction badURL ds with
  | case1 ds h => simp
  | case2 ds h h2 => simp
  | case3 ds h h2 h3 ih => simp only []; have := List.length_tail (l := ds); have := escape_len ds.tail; omega
  | case4 ds h h2 h3 ih => have := List.length_tail (l := ds); omega
theorem url_len (ds : List Int) : (url ds).2.2.2.length ≤ ds.length := by
  fun_induction url ds with
  | case1 ds h => simp
  | case2 ds h h2 => simp
  | case3 ds h h2 h3 h4 => simp only []; have := badURL_len (spaces ds); have := spaces_len ds; omega
  | case4 ds h h2 h3 h4 ih => have := spaces_len ds; omega
  | case5 ds h h2 h3 h4 => simp only []; exact badURL_len ds
  | case6 ds h h2 h3 h4 h5 r ih => simp only [r]; have := List.length_tail (l := ds); have := escape_len ds.tail; omega
  | case7 ds h h2 h3 h4 h5 r ih => simp only [r]; have := List.length_tail (l := ds); omega
theorem quotedRun_len (q : Int) (ds : List Int) : (quotedRun q ds).2.2.2.length ≤ ds.length := by
  fun_induction quotedRun q ds with
  | case1 ds h => simp
  | case2 ds h h2 => simp
  | case3 ds h h2 h3 => simp
  | case4 ds h h2 h3 h4 ih => have := List.length_tail (l := ds); omega
  | case5 ds h h2 h3 h4 h5 ih => have := List.length_tail (l := ds); have := newline_len ds.tail; omega
  | case6 ds h h2 h3 h4 h5 h6 r ih => simp only [r]; have := List.length_tail (l := ds); have := escape_len ds.tail; omega
  | case7 ds h h2 h3 h4 h5 h6 r ih => simp only [r]; have := List.length_tail (l := ds); omega
theorem comments_len (ds : List Int) : (comments ds).2.2.length ≤ ds.length := by
  fun_induction comments ds with
  | case1 ds h h2 => simp only []; have := comEnd_len ds.tail.tail; have := List.length_tail (l := ds); have := List.length_tail (l := ds.tail); omega
  | case2 ds h h2 ih => simp only []; have := comEnd_len ds.tail.tail; have := List.length_tail (l := ds); have := List.length_tail (l := ds.tail); omega
  | case3 => simp
end Css
end Go.Proofs.YtkfdcbdlcipmfaaGreatFmt
namespace Go.Proofs.YtkfdcbdlcipmfaaGreatFmt
namespace Css
theorem isDg_of_num2 {a b : Int} (h : num2 a b) : a ≠ -1 := by unfold num2 isDg at h; omega
theorem digits_lt {ds : List Int} (h : isDg (pk ds 0)) : (digits ds).length < ds.length := by
  cases ds with
  | nil => simp [isDg] at h
  | cons c t => unfold digits; rw [if_pos (by simpa using h)]; have := digits_len t; simp; omega
theorem numDot_len (ds : List Int) : (numDot ds).length ≤ ds.length := by
  unfold numDot; split
  · have := digits_len ds.tail; have := List.length_tail (l := ds); omega
  · omega
theorem numExp_len (ds : List Int) : (numExp ds).length ≤ ds.length := by
  unfold numExp; split
  · have := digits_len ds.tail.tail; have := List.length_tail (l := ds); have := List.length_tail (l := ds.tail); omega
  · omega
theorem num2_lt {ds : List Int} (h : num2 (pk ds 0) (pk ds 1)) : (numDot (digits ds)).length < ds.length := by
  rcases h with h | ⟨h, h2⟩
  · have := digits_lt h; have := numDot_len (digits ds); omega
  · cases ds with
    | nil => simp at h
    | cons c t =>
      simp at h h2
      have hd : digits (c :: t) = c :: t := by unfold digits; rw [if_neg (by unfold isDg; omega)]
      rw [hd]; unfold numDot
      rw [if_pos (by simp [h, h2])]
      have := digits_lt (ds := t) h2
      simp; omega
theorem numEnd_lt {ds : List Int} (h : counts (pk ds 0) (pk ds 1) (pk ds 2)) : (numEnd ds).2.length < ds.length := by
  unfold numEnd; simp only []
  have h1 := numExp_len (numDot (digits (numSign ds)))
  rcases h with ⟨h, h2⟩ | ⟨h, h2⟩
  · have hs : numSign ds = ds.tail := by unfold numSign; rw [if_pos h]
    cases ds with
    | nil => simp at h
    | cons c t =>
      have := num2_lt (ds := t) (by simpa using h2)
      rw [hs] at h1 ⊢; simp at h1 ⊢; omega
  · have hs : numSign ds = ds := by unfold numSign; rw [if_neg h]
    have := num2_lt h2
    rw [hs] at h1 ⊢; omega
theorem numeric_lt {ds : List Int} (h : counts (pk ds 0) (pk ds 1) (pk ds 2)) : (numeric ds).2.2.length < ds.length := by
  have h1 := numEnd_lt h
  unfold numeric; simp only []
  split
  · have := name_len (numEnd ds).2; simp only []; omega
  · split
    · simp; omega
    · exact h1
theorem name_lt {ds : List Int} (h : cont (pk ds 0) ∨ esc (pk ds 0) (pk ds 1)) : (name ds).2.2.length < ds.length := by
  have h0 : 0 < ds.length := len_of_pk (by rcases h with h | h; exact pk_ne_of_cont h; rw [h.1]; decide)
  have ht := List.length_tail (l := ds)
  unfold name
  split
  · have := name_len ds.tail; simp only []; omega
  · rename_i h1
    have h2 : esc (pk ds 0) (pk ds 1) := by rcases h with h | h; exact absurd h h1; exact h
    rw [dif_pos h2]
    have := name_len (escape ds.tail).2.2; have := escape_len ds.tail
    simp only []; omega
theorem cont_of_ident3 {a b c : Int} (h : ident3 a b c) : cont a ∨ esc a b := by
  unfold ident3 at h; unfold cont
  rcases h with ⟨h, _⟩ | ⟨_, h | h⟩
  · exact .inl (.inr (.inr h))
  · exact .inl (.inl h)
  · exact .inr h
theorem named_lt {ds : List Int} (h : ident3 (pk ds 0) (pk ds 1) (pk ds 2)) : (named ds).2.2.length < ds.length := by
  have h1 := name_lt (cont_of_ident3 h)
  unfold named; simp only []
  split
  · exact h1
  · split
    · simp only []
      have := url_len (spaces (name ds).2.2.tail); have := spaces_len (name ds).2.2.tail
      have := List.length_tail (l := (name ds).2.2); omega
    · have := List.length_tail (l := (name ds).2.2); simp only []; omega
theorem next_lt {ds : List Int} (h : pk ds 0 ≠ -1) : (next ds).2.2.length < ds.length := by
  have h0 := len_of_pk h
  have ht := List.length_tail (l := ds)
  unfold next
  rw [if_neg h]
  split
  · rename_i hs
    cases ds with
    | nil => simp at h
    | cons c t => simp only []; unfold spaces; rw [if_pos (by simpa using hs)]; have := spaces_len t; simp; omega
  split
  · simp only []; have := quotedRun_len (pk ds 0) ds.tail; omega
  split
  · simp only []; have := name_len ds.tail; omega
  split
  · exact numeric_lt ‹_›
  split
  · simp; omega
  split
  · exact named_lt ‹_›
  split
  · simp; omega
  split
  · simp only []; have := name_len ds.tail; omega
  · simp only []; omega
def tokens (ds : List Int) : List (Tk × List Int × List Int) × Nat × Bool :=
  if _h : pk (comments ds).2.2 0 = -1 then ([], (comments ds).1, (comments ds).2.1)
  else
    let ds' := (comments ds).2.2
    ((( next ds').1, ds', (next ds').2.2) :: (tokens (next ds').2.2).1, (comments ds).1 + (tokens (next ds').2.2).2.1, (comments ds).2.1 || (next ds').2.1 || (tokens (next ds').2.2).2.2)
 termination_by ds.length
 decreasing_by
  all_goals
    have h1 := next_lt _h
    have h2 := comments_len ds
    omega
def part (a b : List Int) : List Int := a.take (a.length - b.length)
theorem part_append (a b : List Int) : part (a ++ b) b = a := by unfold part; simp
end Css
end Go.Proofs.YtkfdcbdlcipmfaaGreatFmt
