/- Walks: the first code point of a text; whether an identifier would begin with it. -/
import Derived.Test.YtkfdcbdlcipmfaaGreatFmtH03
import Derived.Lib.IndexBytes
import Derived.Test.YtkfdcbdlcipmfaaGreatFmtH02
set_option linter.unusedVariables false
set_option linter.unusedSimpArgs false
namespace Go.Proofs.YtkfdcbdlcipmfaaGreatFmt
open Go.RowKit Css
def AllV (cs : List Int) : Prop := ∀ c ∈ cs, Valid c
theorem decodeGo_cons {s : ByteArray} {c : Int} {t : List Int} (hv : Valid c) (h : s.data.toList = enc (c :: t)) : Lib.decodeGo s = (c.toNat, wd c) := by
  have hs : s.size ≠ 0 := by
    have e : s.data.toList.length = s.size := rfl
    rw [h, enc_length_cons] at e; have := (wd_pos c).1; omega
  unfold Lib.decodeGo
  rw [if_neg hs]
  exact decode_enc (A := []) (R := enc t) hv (by rw [h]; rfl)
theorem decodeGo_nil {s : ByteArray} (h : s.data.toList = enc []) : Lib.decodeGo s = (65533, 0) := by
  have hs : s.size = 0 := by
    have e : s.data.toList.length = s.size := rfl
    rw [h] at e; simpa using e.symm
  unfold Lib.decodeGo
  rw [if_pos hs]
theorem dec_cons (s : ByteArray) (c : Int) (t : List Int) (hv : Valid c) (h : s.data.toList = enc (c :: t)) (w : World) (hT : Lib.Utf8Tabs 1 2 w) :
    Calls Tryz.prog 100 #[.string s] w fun e w' => e = .returned (.tuple #[.int .i32 c, .int .i64 (wd c : Nat)]) ∧ Below w.heap.size w w' := by
  refine (Tryz.utf8_DecodeRuneInString s w hT).mono ?_
  rintro e w' ⟨he, hw⟩
  refine ⟨?_, hw⟩
  rw [he, decodeGo_cons hv h]
  unfold Valid at hv
  have : ((c.toNat : Nat) : Int) = c := by omega
  show Ending.returned (.tuple #[.int .i32 ((c.toNat : Nat) : Int), _]) = _
  rw [this]
theorem dec_nil (s : ByteArray) (h : s.data.toList = enc []) (w : World) (hT : Lib.Utf8Tabs 1 2 w) :
    Calls Tryz.prog 100 #[.string s] w fun e w' => e = .returned (.tuple #[.int .i32 65533, .int .i64 0]) ∧ Below w.heap.size w w' := by
  refine (Tryz.utf8_DecodeRuneInString s w hT).mono ?_
  rintro e w' ⟨he, hw⟩
  refine ⟨?_, hw⟩
  rw [he, decodeGo_nil h]
  rfl
theorem extract_enc {s : ByteArray} {A R : List UInt8} (h : s.data.toList = A ++ R) (n : Nat) (hn : n = A.length) : (s.extract n s.size).data.toList = R := by
  subst hn
  rw [Lib.extract_to_end, h, List.drop_left]
theorem size_enc {s : ByteArray} {l : List UInt8} (h : s.data.toList = l) : s.size = l.length := by rw [← h]; rfl
structure Fold (w : World) : Prop where
  asc : ∀ p ∈ [(115, 383), (83, 115), (116, 84), (84, 116), (121, 89), (89, 121), (108, 76), (76, 108), (101, 69), (69, 101)], w.cell? ⟨3, p.1, none⟩ = some (.int .u16 ((p.2 : Nat) : Int))
  orb : ∃ R oR cap, w.cell? ⟨4, 0, none⟩ = some (.slice (some ⟨R, oR, none⟩) 94 cap) ∧ (∀ p ∈ [(47, 966), (23, 837), (11, 452), (5, 197), (8, 304), (10, 383), (9, 305)], w.cell? ⟨R, oR + 2 * p.1, none⟩ = some (.int .u16 ((p.2 : Nat) : Int))) ∧ w.cell? ⟨R, oR + 21, none⟩ = some (.int .u16 83)
structure Env0 (F : Go.Stop.Interp) (W0 : World) : Prop where
  tabs : Lib.Utf8Tabs 1 2 W0
  case_ : Lib.CaseVar 5 Lib.caseA W0
  fold : Fold W0
  tape : F.told.answers W0.tape
structure Env (F : Go.Stop.Interp) (W0 w : World) : Prop where
  start : Env0 F W0
  low : ∀ i, i < W0.heap.size → w.heap[i]? = W0.heap[i]?
  size : W0.heap.size ≤ w.heap.size
  tape_ : w.tape = W0.tape
variable {F : Go.Stop.Interp} {W0 w w' : World}
theorem Env.cell (h : Env F W0 w) {a : Addr} {x : Value} (hx : W0.cell? a = some x) : w.cell? a = some x :=
  (World.cell?_of_block (w := W0) (h.low a.block (World.block_lt_of_cell? W0 a hx))).trans hx
theorem Env.tabs (h : Env F W0 w) : Lib.Utf8Tabs 1 2 w := ⟨fun c hc => h.cell (h.start.tabs.1 c hc), fun i hi => ⟨h.cell (h.start.tabs.2 i hi).1, h.cell (h.start.tabs.2 i hi).2⟩⟩
theorem Env.case_ (h : Env F W0 w) : Lib.CaseVar 5 Lib.caseA w := by
  obtain ⟨R, oR, cap, h1, h2⟩ := h.start.case_
  exact ⟨R, oR, cap, h.cell h1, fun j hj => ⟨h.cell (h2 j hj).1, h.cell (h2 j hj).2.1, h.cell (h2 j hj).2.2.1, h.cell (h2 j hj).2.2.2.1, h.cell (h2 j hj).2.2.2.2⟩⟩
theorem Env.fold (h : Env F W0 w) : Fold w := by
  obtain ⟨R, oR, cap, h1, h2, h3⟩ := h.start.fold.orb
  exact ⟨fun p hp => h.cell (h.start.fold.asc p hp), R, oR, cap, h.cell h1, fun p hp => h.cell (h2 p hp), h.cell h3⟩
theorem Env.tape (h : Env F W0 w) : F.told.answers w.tape := by rw [h.tape_]; exact h.start.tape
theorem Env.below (h : Env F W0 w) (hb : Below w.heap.size w w') : Env F W0 w' :=
  ⟨h.start, fun i hi => (hb.block i (Nat.lt_of_lt_of_le hi h.size)).trans (h.low i hi), Nat.le_trans h.size hb.size, hb.tape.trans h.tape_⟩
theorem Env.ke {g : Nat} (h : Env F W0 w) (hk : Ke W0.heap.size g w w') : Env F W0 w' :=
  ⟨h.start, fun i hi => (hk.low i hi).trans (h.low i hi), Nat.le_trans h.size hk.size, hk.tape.trans h.tape_⟩
theorem Env.alloc (h : Env F W0 w) (o : Obj) : Env F W0 (w.alloc o) := h.below ((Below.refl _ _).alloc (Nat.le_refl _) o)
theorem Env.drew (h : Env F W0 w) : Env F W0 w.drew := ⟨h.start, h.low, h.size, h.tape_⟩
def wouldB (cs : List Int) : Bool := decide (would cs)
set_option maxHeartbeats 800000 in
set_option maxRecDepth 100000 in
theorem would_45 (t : List Int) (hv : AllV t) (s : ByteArray) (h : s.data.toList = enc (45 :: t)) (hE : Env F W0 w) :
    Calls Tryz.prog 114 #[.string s] w fun e w' => e = .returned (.bool (wouldB (45 :: t))) ∧ Below w.heap.size w w' := by
  have HE := Lib.hid hE
  have HH := Lib.hid h
  have hsb : startsB 45 = false := by decide
  have HSB := Lib.hid hsb
  have HV45 : Hid (Valid 45) := by show Valid 45; decide
  have hw1 : wd 45 = 1 := by decide
  have HW1 := Lib.hid hw1
  have hext : (s.extract 1 s.size).data.toList = enc t := extract_enc (A := enc1 45) (R := enc t) h 1 (by decide)
  have HX := Lib.hid hext
  have hsz := size_enc h
  rw [enc_length_cons] at hsz
  have hsz1 : 1 ≤ s.size := by omega
  have hsz2 : (1 : Int) ≤ (s.size : Int) := by omega
  clear hext hw1 hsz h hsb hE
  cases t with
  | nil =>
    have e : wouldB [45] = false := by decide
    rw [e]
    go_enter Tryz.func114, Tryz.ntmps114
    go_wp2_with fail
    refine (dec_cons s 45 [] HV45.out HH.out _ HE.out.tabs).mono ?_
    rintro e w1 ⟨rfl, hb1⟩
    have HB1 := Lib.hid hb1
    clear hb1
    rw [HW1.out]
    go_wp2_with fail
    refine (start_any 45 (by decide) _).mono ?_
    rintro e w' ⟨rfl, rfl⟩
    rw [HSB.out]
    go_wp2_with fail
    refine (dec_nil _ HX.out _ (HE.out.below HB1.out).tabs).mono ?_
    rintro e w2 ⟨rfl, hb2⟩
    have HB2 := Lib.hid hb2
    clear hb2
    go_wp2_with fail
    go_ret
    exact ⟨rfl, HB1.out.trans (HB2.out.mono HB1.out.size)⟩
  | cons d t' =>
    have hvd := hv d (by simp)
    have HVD := Lib.hid hvd
    have HD1 : Hid (1 ≤ d) := hvd.1
    have ed : wouldB (45 :: d :: t') = (startsB d || d == 45) := by
      unfold wouldB would startsB
      rw [Bool.eq_iff_iff]
      have n45 : ¬ starts 45 := by decide
      simp [n45]
    clear hv
    by_cases hd : d = 65533
    · subst hd
      have e : wouldB (45 :: 65533 :: t') = true := by rw [ed]; decide
      rw [e]
      have hw3 : wd 65533 = 3 := by decide
      have HW3 := Lib.hid hw3
      have HS3 : Hid (startsB 65533 = true) := by show startsB 65533 = true; decide
      clear hw3 ed hvd e
      go_enter Tryz.func114, Tryz.ntmps114
      go_wp2_with fail
      refine (dec_cons s 45 _ HV45.out HH.out _ HE.out.tabs).mono ?_
      rintro e w1 ⟨rfl, hb1⟩
      have HB1 := Lib.hid hb1
      clear hb1
      rw [HW1.out]
      go_wp2_with fail
      refine (start_any 45 (by decide) _).mono ?_
      rintro e w' ⟨rfl, rfl⟩
      rw [HSB.out]
      go_wp2_with fail
      refine (dec_cons _ 65533 t' HVD.out HX.out _ (HE.out.below HB1.out).tabs).mono ?_
      rintro e w2 ⟨rfl, hb2⟩
      have HB2 := Lib.hid hb2
      clear hb2
      rw [HW3.out]
      go_wp2_with fail
      refine (start_any 65533 (by decide) _).mono ?_
      rintro e w' ⟨rfl, rfl⟩
      rw [HS3.out]
      go_wp2_with fail
      go_ret
      exact ⟨rfl, HB1.out.trans (HB2.out.mono HB1.out.size)⟩
    · have hd2 : (d == 65533) = false := by simp [hd]
      clear hd hvd
      have HED := Lib.hid ed
      clear ed
      cases hsd : startsB d
      · have HSD := Lib.hid hsd
        clear hsd
        rw [HED.out, HSD.out, Bool.false_or]
        go_enter Tryz.func114, Tryz.ntmps114
        go_wp2_with fail
        refine (dec_cons s 45 _ HV45.out HH.out _ HE.out.tabs).mono ?_
        rintro e w1 ⟨rfl, hb1⟩
        have HB1 := Lib.hid hb1
        clear hb1
        rw [HW1.out]
        go_wp2_with fail
        refine (start_any 45 (by decide) _).mono ?_
        rintro e w' ⟨rfl, rfl⟩
        rw [HSB.out]
        go_wp2_with fail
        refine (dec_cons _ d t' HVD.out HX.out _ (HE.out.below HB1.out).tabs).mono ?_
        rintro e w2 ⟨rfl, hb2⟩
        have HB2 := Lib.hid hb2
        clear hb2
        go_wp2_with fail
        refine (start_any d HD1.out _).mono ?_
        rintro e w' ⟨rfl, rfl⟩
        rw [HSD.out]
        cases hy : (d == 45)
        · go_wp2_with fail
          go_ret
          exact ⟨by first | rfl | simp [hy] | (simp at hy; simp [hy]), HB1.out.trans (HB2.out.mono HB1.out.size)⟩
        · go_wp2_with fail
          go_ret
          exact ⟨by first | rfl | simp [hy] | (simp at hy; simp [hy]), HB1.out.trans (HB2.out.mono HB1.out.size)⟩
      · have HSD := Lib.hid hsd
        clear hsd
        rw [HED.out, HSD.out, Bool.true_or]
        go_enter Tryz.func114, Tryz.ntmps114
        go_wp2_with fail
        refine (dec_cons s 45 _ HV45.out HH.out _ HE.out.tabs).mono ?_
        rintro e w1 ⟨rfl, hb1⟩
        have HB1 := Lib.hid hb1
        clear hb1
        rw [HW1.out]
        go_wp2_with fail
        refine (start_any 45 (by decide) _).mono ?_
        rintro e w' ⟨rfl, rfl⟩
        rw [HSB.out]
        go_wp2_with fail
        refine (dec_cons _ d t' HVD.out HX.out _ (HE.out.below HB1.out).tabs).mono ?_
        rintro e w2 ⟨rfl, hb2⟩
        have HB2 := Lib.hid hb2
        clear hb2
        go_wp2_with fail
        refine (start_any d HD1.out _).mono ?_
        rintro e w' ⟨rfl, rfl⟩
        rw [HSD.out]
        go_wp2_with fail
        go_ret
        exact ⟨rfl, HB1.out.trans (HB2.out.mono HB1.out.size)⟩
set_option maxHeartbeats 1600000 in
set_option maxRecDepth 100000 in
theorem would_any (cs : List Int) (hv : AllV cs) (s : ByteArray) (h : s.data.toList = enc cs) (hE : Env F W0 w) :
    Calls Tryz.prog 114 #[.string s] w fun e w' => e = .returned (.bool (wouldB cs)) ∧ Below w.heap.size w w' := by
  have HE := Lib.hid hE
  have HH := Lib.hid h
  clear hE
  cases cs with
  | nil =>
    have e : wouldB [] = false := by decide
    rw [e]
    clear h
    go_enter Tryz.func114, Tryz.ntmps114
    go_wp2_with (go_at_call 100; go_must (refine (dec_nil s HH.out _ HE.out.tabs).mono ?_; rintro e w1 ⟨rfl, hb1⟩; have HB1 := Lib.hid hb1; clear hb1))
    go_ret
    exact ⟨rfl, HB1.out⟩
  | cons c t =>
    have hvc := hv c (by simp)
    have hvt : AllV t := fun x hx => hv x (by simp [hx])
    have HVC := Lib.hid hvc
    have hb1 := hvc.1
    have hb2 := hvc.2.1
    have HB1' : Hid (1 ≤ c) := hb1
    have hsz := size_enc h
    rw [enc_length_cons] at hsz
    have hwd := (wd_pos c).1
    have hrune : ¬ (c = 65533 ∧ wd c ≤ 1) := by
      rintro ⟨h1, h2⟩
      subst h1
      exact absurd h2 (by decide)
    by_cases hs : starts c
    · have e : wouldB (c :: t) = true := by unfold wouldB would; simp [hs]
      rw [e]
      have hsb := startsB_t hs
      have HSB := Lib.hid hsb
      clear hsb hs hsz h
      by_cases hc : c = 65533
      · subst hc
        have hw3 : wd 65533 = 3 := by decide
        have HW3 := Lib.hid hw3
        clear hw3 hrune hwd
        go_enter Tryz.func114, Tryz.ntmps114
        go_wp2_with (first | (go_at_call 100; go_must (refine (dec_cons s _ t HVC.out HH.out _ HE.out.tabs).mono ?_; rintro e w1 ⟨rfl, hb1⟩; have HB1 := Lib.hid hb1; clear hb1; rw [HW3.out])) | (go_at_call 138; go_must (refine (start_any _ HB1'.out _).mono ?_; rintro e w' ⟨rfl, rfl⟩; rw [HSB.out])))
        go_ret
        exact ⟨rfl, HB1.out⟩
      · have hc2 : (c == 65533) = false := by simp [hc]
        clear hrune hc
        go_enter Tryz.func114, Tryz.ntmps114
        go_wp2_with (first | (go_at_call 100; go_must (refine (dec_cons s _ t HVC.out HH.out _ HE.out.tabs).mono ?_; rintro e w1 ⟨rfl, hb1⟩; have HB1 := Lib.hid hb1; clear hb1)) | (go_at_call 138; go_must (refine (start_any _ HB1'.out _).mono ?_; rintro e w' ⟨rfl, rfl⟩; rw [HSB.out])))
        go_ret
        exact ⟨rfl, HB1.out⟩
    · have hsb := startsB_f hs
      have HSB := Lib.hid hsb
      have hc2 : (c == 65533) = false := by simp; rintro rfl; exact hs (by decide)
      clear hsb hrune
      by_cases hy : c = 45
      · subst hy
        exact would_45 t hvt s HH.out HE.out
      · have e : wouldB (c :: t) = false := by
          unfold wouldB would; simp [hs, hy]
        rw [e]
        have hy2 : (c == 45) = false := by simp [hy]
        clear hs hy hsz h
        go_enter Tryz.func114, Tryz.ntmps114
        go_wp2_with (first | (go_at_call 100; go_must (refine (dec_cons s _ t HVC.out HH.out _ HE.out.tabs).mono ?_; rintro e w1 ⟨rfl, hb1⟩; have HB1 := Lib.hid hb1; clear hb1)) | (go_at_call 138; go_must (refine (start_any _ HB1'.out _).mono ?_; rintro e w' ⟨rfl, rfl⟩; rw [HSB.out])))
        go_ret
        exact ⟨rfl, HB1.out⟩
end Go.Proofs.YtkfdcbdlcipmfaaGreatFmt
namespace Go.Proofs.YtkfdcbdlcipmfaaGreatFmt
namespace Css
structure N where
  kind : Int
  unit : Int
  depth : Int
  text : List Int
  before : Bool
  after : Bool
def Tree : Int → List N → Prop
  | _, [] => True
  | most, n :: l => 0 ≤ n.depth ∧ n.depth ≤ most ∧ Tree (if opens n.kind then n.depth + 1 else n.depth) l
theorem Tree.any {m m' : Int} {l : List N} (h : Tree m l) (hl : ∀ n r, l = n :: r → n.depth ≤ m') : Tree m' l := by
  cases l with
  | nil => trivial
  | cons n r => exact ⟨h.1, hl n r rfl, h.2.2⟩
inductive Parse : Int → List N → List T → List N → Prop
  | nil (d : Int) : Parse d [] [] []
  | stop (d : Int) (n : N) (r : List N) : n.depth < d → Parse d (n :: r) [] (n :: r)
  | leaf (d : Int) (n : N) (r : List N) (ts : List T) (rest : List N) : ¬ n.depth < d → ¬ opens n.kind → Parse d r ts rest →
      Parse d (n :: r) (.mk n.kind n.unit.toNat n.text n.before n.after [] :: ts) rest
  | node (d : Int) (n : N) (r : List N) (kids : List T) (r1 : List N) (ts : List T) (rest : List N) : ¬ n.depth < d → opens n.kind → Parse (n.depth + 1) r kids r1 → Parse d r1 ts rest →
      Parse d (n :: r) (.mk n.kind n.unit.toNat n.text n.before n.after kids :: ts) rest
theorem parse_rest {d : Int} {l : List N} {ts : List T} {rest : List N} (h : Parse d l ts rest) : (∀ n r, rest = n :: r → n.depth < d) ∧ ∀ m, Tree m l → ∃ m', Tree m' rest := by
  induction h with
  | nil => exact ⟨by simp, fun m h => ⟨m, h⟩⟩
  | stop d n r hd => exact ⟨by rintro n' r' ⟨⟩; exact hd, fun m h => ⟨m, h⟩⟩
  | leaf d n r ts rest hd ho hp ih => exact ⟨ih.1, fun m h => ih.2 _ h.2.2⟩
  | node d n r kids r1 ts rest hd ho hp1 hp2 ih1 ih2 =>
    refine ⟨ih2.1, fun m h => ?_⟩
    obtain ⟨m', h'⟩ := ih1.2 _ h.2.2
    exact ih2.2 _ h'
structure It where
  kind : Int
  unit : Int
  text : List Int
  space : Int
def closeIt (k : Int) : It := ⟨k, 0, [], -1⟩
def spOf (fr la b : Bool) : Int := if fr then -1 else if b || la then 1 else 0
def upd (f : Int → Bool) (i : Int) (x : Bool) : Int → Bool := fun j => if j = i then x else f j
def itemsGo : List Int → (Int → Bool) → (Int → Bool) → List N → List It
  | op, _, _, [] => op.map closeIt
  | op, last, fresh, n :: l =>
    (op.take (op.length - n.depth.toNat)).map closeIt ++ ⟨n.kind, n.unit, n.text, spOf (fresh n.depth) (last n.depth) n.before⟩ ::
      (if opens n.kind then itemsGo (closeKind n.kind :: op.drop (op.length - n.depth.toNat)) (upd last n.depth n.after) (upd (upd fresh n.depth false) (n.depth + 1) true) l
       else itemsGo (op.drop (op.length - n.depth.toNat)) (upd last n.depth n.after) (upd fresh n.depth false) l)
def items (l : List N) : List It := itemsGo [] (fun _ => false) (fun i => decide (i = 0)) l
def itemsF : List T → Bool → Bool → List It
  | [], _, _ => []
  | .mk k u x b a kids :: ts, fr, la => ⟨k, (u : Int), x, spOf fr la b⟩ :: ((if opens k then itemsF kids true false ++ [closeIt (closeKind k)] else []) ++ itemsF ts false a)
theorem itemsF_la (ts : List T) (a b : Bool) : itemsF ts true a = itemsF ts true b := by
  cases ts with
  | nil => simp [itemsF]
  | cons t ts => cases t; simp [itemsF, spOf]
theorem itemsGo_close (X base : List Int) (last fresh : Int → Bool) (l : List N) (h : ∀ n r, l = n :: r → 0 ≤ n.depth ∧ n.depth ≤ base.length) :
    itemsGo (X ++ base) last fresh l = X.map closeIt ++ itemsGo base last fresh l := by
  cases l with
  | nil => simp [itemsGo]
  | cons n r =>
    have hd := h n r rfl
    have e : (X ++ base).length - n.depth.toNat = X.length + (base.length - n.depth.toNat) := by rw [List.length_append]; omega
    have e1 : (X ++ base).take (X.length + (base.length - n.depth.toNat)) = X ++ base.take (base.length - n.depth.toNat) := by
      rw [List.take_append, List.take_of_length_le (by omega), Nat.add_sub_cancel_left]
    have e2 : (X ++ base).drop (X.length + (base.length - n.depth.toNat)) = base.drop (base.length - n.depth.toNat) := by
      rw [List.drop_append, List.drop_eq_nil_of_le (by omega), List.nil_append, Nat.add_sub_cancel_left]
    simp only [itemsGo]
    rw [e, e1, e2]
    simp
def UnitOk (l : List N) : Prop := ∀ n ∈ l, 0 ≤ n.unit
theorem itemsGo_parse {d : Int} {l : List N} {ts : List T} {rest : List N} (hp : Parse d l ts rest) : 0 ≤ d → UnitOk l → ∀ (base : List Int) (last fresh : Int → Bool), Tree d l → (base.length : Int) = d →
    ∃ last' fresh', itemsGo base last fresh l = itemsF ts (fresh d) (last d) ++ itemsGo base last' fresh' rest ∧ (∀ i, i < d → last' i = last i ∧ fresh' i = fresh i) := by
  induction hp with
  | nil d => intro _ _ base last fresh _ _; exact ⟨last, fresh, by simp [itemsF], fun _ _ => ⟨rfl, rfl⟩⟩
  | stop d n r hd => intro _ _ base last fresh _ _; exact ⟨last, fresh, by simp [itemsF], fun _ _ => ⟨rfl, rfl⟩⟩
  | leaf d n r ts rest hd ho hp ih =>
    intro h0 hu base last fresh ht hb
    have hnd : n.depth = d := by have := ht.2.1; omega
    have ht2 := ht.2.2
    rw [if_neg ho, hnd] at ht2
    obtain ⟨la, fr, he, hk⟩ := ih h0 (fun x hx => hu x (by simp [hx])) base (upd last d n.after) (upd fresh d false) ht2 hb
    refine ⟨la, fr, ?_, fun i hi => ?_⟩
    · have e0 : base.length - d.toNat = 0 := by omega
      have un := hu n (by simp)
      have eu : ((n.unit.toNat : Nat) : Int) = n.unit := by omega
      simp only [itemsGo, itemsF, hnd, e0, if_neg ho, eu]
      simp only [List.take_zero, List.map_nil, List.nil_append, List.drop_zero, List.cons_append, List.cons.injEq, true_and]
      rw [he]
      simp [upd]
    · have := hk i hi
      rw [this.1, this.2]
      unfold upd
      rw [if_neg (by omega), if_neg (by omega)]
      exact ⟨rfl, rfl⟩
  | node d n r kids r1 ts rest hd ho hp1 hp2 ih1 ih2 =>
    intro h0 hu base last fresh ht hb
    have hnd : n.depth = d := by have := ht.2.1; omega
    have ht2 := ht.2.2
    rw [if_pos ho, hnd] at ht2
    have hu1 : UnitOk r := fun x hx => hu x (by simp [hx])
    rw [hnd] at ih1 hp1
    obtain ⟨la1, fr1, he1, hk1⟩ := ih1 (by omega) hu1 (closeKind n.kind :: base) (upd last d n.after) (upd (upd fresh d false) (d + 1) true) ht2 (by simp; omega)
    obtain ⟨hrest1, htree1⟩ := parse_rest hp1
    obtain ⟨m', ht3⟩ := htree1 _ ht2
    have ht4 : Tree d r1 := ht3.any (fun n r e => by have := hrest1 n r e; omega)
    have hu2 : UnitOk r1 := by
      have : ∀ {d l ts rest}, Parse d l ts rest → UnitOk l → UnitOk rest := by
        intro d l ts rest h
        induction h with
        | nil => exact fun h => h
        | stop => exact fun h => h
        | leaf _ _ _ _ _ _ _ _ ih => exact fun h => ih (fun x hx => h x (by simp [hx]))
        | node _ _ _ _ _ _ _ _ _ _ _ ih1 ih2 => exact fun h => ih2 (ih1 (fun x hx => h x (by simp [hx])))
      exact this hp1 hu1
    obtain ⟨la2, fr2, he2, hk2⟩ := ih2 h0 hu2 base la1 fr1 ht4 hb
    refine ⟨la2, fr2, ?_, fun i hi => ?_⟩
    · have e0 : base.length - d.toNat = 0 := by omega
      have un := hu n (by simp)
      have eu : ((n.unit.toNat : Nat) : Int) = n.unit := by omega
      have ec : itemsGo (closeKind n.kind :: base) la1 fr1 r1 = closeIt (closeKind n.kind) :: itemsGo base la1 fr1 r1 := by
        have := itemsGo_close [closeKind n.kind] base la1 fr1 r1 (fun x y e => by
          have h1 := hrest1 x y e
          have h2 : Tree m' (x :: y) := by rw [← e]; exact ht3
          exact ⟨h2.1, by omega⟩)
        simpa using this
      have eA : la1 d = n.after := by rw [(hk1 d (by omega)).1]; simp [upd]
      have eB : fr1 d = false := by rw [(hk1 d (by omega)).2]; unfold upd; rw [if_neg (by omega)]; simp
      have eC : (upd (upd fresh d false) (d + 1) true) (d + 1) = true := by simp [upd]
      simp only [itemsGo, itemsF, hnd, e0, if_pos ho, eu]
      simp only [List.take_zero, List.map_nil, List.nil_append, List.drop_zero, List.cons_append, List.cons.injEq, true_and]
      rw [he1, eC, itemsF_la kids _ false, ec, he2, eA, eB]
      simp
    · have h1 := hk2 i hi
      have h2 := hk1 i (by omega)
      rw [h1.1, h1.2, h2.1, h2.2]
      unfold upd
      rw [if_neg (by omega), if_neg (by omega), if_neg (by omega)]
      exact ⟨rfl, rfl⟩
end Css
end Go.Proofs.YtkfdcbdlcipmfaaGreatFmt
namespace Go.Proofs.YtkfdcbdlcipmfaaGreatFmt
namespace Css
def tOf (n : N) : T := .mk n.kind n.unit.toNat n.text n.before n.after []
def needs (n : N) (r : List N) : Bool :=
  match r with
  | [] => false
  | m :: _ => !decide (opens n.kind) && decide (m.depth = n.depth) && decide (apart (tOf n) (tOf m))
def setAfter (n : N) (a : Bool) : N := { n with after := a }
def setL (all : Bool) : List N → List N
  | [] => []
  | n :: r => setAfter n (n.after || all || needs n r) :: setL all r
def Gaps : List N → Prop
  | [] => True
  | n :: r => (∀ m r', r = m :: r' → ¬ opens n.kind → m.depth = n.depth → apart (tOf n) (tOf m) → (n.after || m.before) = true) ∧ Gaps r
theorem apart_texts {a b a' b' : T} (h1 : a.kind = a'.kind) (h2 : a.text = a'.text) (h3 : b.kind = b'.kind) (h4 : b.text = b'.text) : apart a b → apart a' b' := by
  unfold apart; rw [h1, h2, h3, h4]; exact id
theorem gaps_set (all : Bool) (l : List N) : Gaps (setL all l) := by
  induction l with
  | nil => trivial
  | cons n r ih =>
    refine ⟨?_, ih⟩
    intro m r' e ho hd ha
    cases r with
    | nil => simp [setL] at e
    | cons m2 r2 =>
      simp only [setL, List.cons.injEq] at e
      obtain ⟨e1, _⟩ := e
      subst e1
      have hx : needs n (m2 :: r2) = true := by
        unfold needs
        simp only [Bool.and_eq_true, Bool.not_eq_true', decide_eq_false_iff_not, decide_eq_true_eq]
        exact ⟨⟨ho, hd⟩, apart_texts rfl rfl rfl rfl ha⟩
      show ((n.after || all || needs n (m2 :: r2)) || _) = true
      rw [hx]; simp
theorem gaps_rest {d : Int} {l : List N} {ts : List T} {rest : List N} (h : Parse d l ts rest) : Gaps l → Gaps rest := by
  induction h with
  | nil => exact id
  | stop => exact id
  | leaf _ _ _ _ _ _ _ _ ih => exact fun h => ih h.2
  | node _ _ _ _ _ _ _ _ _ _ _ ih1 ih2 => exact fun h => ih2 (ih1 h.2)
def AllOK (ascii : Bool) (l : List N) : Prop := ∀ n ∈ l, OK1 ascii (tOf n)
theorem allOK_rest {ascii : Bool} {d : Int} {l : List N} {ts : List T} {rest : List N} (h : Parse d l ts rest) : AllOK ascii l → AllOK ascii rest := by
  induction h with
  | nil => exact id
  | stop => exact id
  | leaf _ _ _ _ _ _ _ _ ih => exact fun h => ih (fun x hx => h x (by simp [hx]))
  | node _ _ _ _ _ _ _ _ _ _ _ ih1 ih2 => exact fun h => ih2 (ih1 (fun x hx => h x (by simp [hx])))
theorem ok1_kids {ascii : Bool} {k : Int} {u : Nat} {x : List Int} {b a : Bool} {kids kids' : List T} (h : OK1 ascii (.mk k u x b a kids)) : OK1 ascii (.mk k u x b a kids') := by
  cases h with
  | name h1 h2 h3 => exact .name h1 h2 h3
  | func h1 h2 h3 h4 => exact .func h1 h2 h3 h4
  | str h1 h2 => exact .str h1 h2
  | num h1 h2 h3 => exact .num h1 h2 h3
  | dim h1 h2 h3 h4 h5 => exact .dim h1 h2 h3 h4 h5
  | sign h1 h2 h3 => exact .sign h1 h2 h3
theorem parse_head {d : Int} {l : List N} {ts : List T} {rest : List N} (h : Parse d l ts rest) {u : T} {us : List T} (e : ts = u :: us) : ∃ n r, l = n :: r ∧ ¬ n.depth < d ∧ u.kind = n.kind ∧ u.text = n.text ∧ u.before = n.before := by
  cases h with
  | nil => cases e
  | stop => cases e
  | leaf d n r ts rest hd ho hp => cases e; exact ⟨n, r, rfl, hd, rfl, rfl, rfl⟩
  | node d n r kids r1 ts rest hd ho hp1 hp2 => cases e; exact ⟨n, r, rfl, hd, rfl, rfl, rfl⟩
theorem okl_parse {ascii : Bool} {d : Int} {l : List N} {ts : List T} {rest : List N} (hp : Parse d l ts rest) : Tree d l → Gaps l → AllOK ascii l → OKl ascii ts := by
  induction hp with
  | nil => intro _ _ _; exact .nil
  | stop => intro _ _ _; exact .nil
  | leaf d n r ts rest hd ho hp ih =>
    intro ht hg hk
    have hnd : n.depth = d := by have := ht.2.1; omega
    have ht2 := ht.2.2
    rw [if_neg ho, hnd] at ht2
    refine .cons _ _ (hk n (by simp)) .nil (ih ht2 hg.2 (fun x hx => hk x (by simp [hx]))) ?_
    intro u us e hno ha
    obtain ⟨m, r', el, hmd, e1, e2, e3⟩ := parse_head hp e
    have hmd2 : m.depth ≤ d := by rw [el] at ht2; exact ht2.2.1
    rw [show u.before = m.before from e3]
    exact hg.1 m r' el ho (by omega) (apart_texts rfl rfl e1 e2 ha)
  | node d n r kids r1 ts rest hd ho hp1 hp2 ih1 ih2 =>
    intro ht hg hk
    have hnd : n.depth = d := by have := ht.2.1; omega
    have ht2 := ht.2.2
    rw [if_pos ho] at ht2
    obtain ⟨hrest1, htree1⟩ := parse_rest hp1
    obtain ⟨m', ht3⟩ := htree1 _ ht2
    have ht4 : Tree d r1 := ht3.any (fun n r e => by have := hrest1 n r e; omega)
    have hk1 : AllOK ascii r := fun x hx => hk x (by simp [hx])
    exact .cons _ _ (ok1_kids (hk n (by simp))) (ih1 ht2 hg.2 hk1) (ih2 ht4 (gaps_rest hp1 hg.2) (allOK_rest hp1 hk1)) (fun u us _ hno => absurd ho hno)
def IsIt (r : Tk × List Int × Bool) (x : It) : Prop :=
  r.1.kind = x.kind ∧
  ((x.kind = 29 ∨ x.kind = 27 ∨ x.kind = 1 ∨ x.kind = 28 ∨ x.kind = 36) → r.1.text = x.text) ∧
  (x.kind = 26 → (r.1.unit : Int) = x.unit ∧ r.2.1.take r.1.unit = x.text.take r.1.unit ∧ name (r.2.1.drop r.1.unit) = (x.text.drop r.1.unit, false, []) ∧ r.1.unit ≤ r.2.1.length ∧ r.1.unit ≤ x.text.length) ∧
  (¬ (x.kind = 29 ∨ x.kind = 27 ∨ x.kind = 1 ∨ x.kind = 28 ∨ x.kind = 36 ∨ x.kind = 26 ∨ x.kind = 8 ∨ x.kind = 7 ∨ x.kind = 6) → r.2.1 = x.text)
def SpaceIs (r : Tk × List Int × Bool) (x : It) : Prop := 0 ≤ x.space → (r.2.2 = true ↔ x.space = 1)
def Fits (r : Tk × List Int × Bool) (x : It) : Prop := IsIt r x ∧ SpaceIs r x
inductive All2 {α β : Type} (R : α → β → Prop) : List α → List β → Prop
  | nil : All2 R [] []
  | cons {a : α} {b : β} {l : List α} {m : List β} : R a b → All2 R l m → All2 R (a :: l) (b :: m)
theorem All2.append {α β : Type} {R : α → β → Prop} {a c : List α} {b d : List β} (h : All2 R a b) (h2 : All2 R c d) : All2 R (a ++ c) (b ++ d) := by
  induction h with
  | nil => exact h2
  | cons h _ ih => exact .cons h ih
theorem nameStop_nil (may : Bool) : NameStop may [] := ⟨by simpa using not_cont_end, by simp, .inr (by simp [isSp, isNl])⟩
theorem isIt_own {ascii may : Bool} {t : T} {out : List Int} (hok : OK1 ascii t) (ho : Own ascii may t out) (b : Bool) (sp : Int) : IsIt (tkOf t, out, b) ⟨t.kind, (t.unit : Int), t.text, sp⟩ := by
  refine ⟨tkOf_kind, ?_, ?_, ?_⟩
  · intro h
    have hk : ¬ t.kind = 26 := by simp only [] at h; omega
    unfold tkOf
    rw [if_neg hk, if_pos h]
  · intro h
    simp only [] at h
    cases hok with
    | dim h1 hg hu hl hlone =>
      have e : tkOf t = ⟨26, t.unit, []⟩ := by unfold tkOf; rw [if_pos h]
      cases ho with
      | dim _ =>
        have hlen : (t.text.take t.unit).length = t.unit := by rw [List.length_take]; omega
        rw [e]
        refine ⟨rfl, ?_, ?_, ?_, ?_⟩
        · show List.take t.unit (t.text.take t.unit ++ _) = _
          rw [List.take_append_of_le_length (by omega), List.take_take, Nat.min_self]
        · show name (List.drop t.unit (t.text.take t.unit ++ _)) = _
          rw [List.drop_append_of_le_length (by omega), List.drop_eq_nil_of_le (by omega), List.nil_append]
          have := name_ident ascii may (unitMode (t.text.take t.unit)) (t.text.drop t.unit) [] (good_sub hg fun c hc => List.mem_of_mem_drop hc) (nameStop_nil may)
          rw [List.append_nil] at this
          exact this
        · show t.unit ≤ (t.text.take t.unit ++ _).length
          rw [List.length_append]; omega
        · exact Nat.le_of_lt hl
      | ident h2 | func _ h2 | atk h2 | hash h2 => omega
      | str q out h2 => omega
      | plain k1 k2 k3 => exact absurd h k3
    | name h1 | num h1 => omega
    | func h1 | str h1 => omega
    | sign h1 => unfold signLike at h1; omega
  · intro h
    simp only [] at h
    cases ho with
    | ident h2 | func _ h2 | dim h2 | atk h2 | hash h2 => omega
    | str q out h2 => omega
    | plain => rfl
theorem fits_close (k : Int) (hk : opens k) (b : Bool) : Fits (⟨closeKind k, 0, []⟩, [closer k], b) (closeIt (closeKind k)) := by
  have h : closeKind k = 8 ∨ closeKind k = 7 ∨ closeKind k = 6 := by
    unfold closeKind
    repeat' split
    all_goals simp
  refine ⟨⟨rfl, fun hx => ?_, fun hx => ?_, fun hx => ?_⟩, fun hx => ?_⟩
  · simp only [closeIt] at hx; omega
  · simp only [closeIt] at hx; omega
  · simp only [closeIt] at hx; omega
  · simp [closeIt] at hx
theorem prints_fits {ascii : Bool} {ts : List T} {has : Bool} {cl : List Ch} (h : Prints ascii ts has cl) : OKl ascii ts → ∀ sp fr la, (fr = true ∨ ((sp || has) = (la || headBefore ts))) → All2 Fits (exp cl sp) (itemsF ts fr la) := by
  induction h with
  | nil => intro _ sp fr la _; simp [exp, itemsF]; exact .nil
  | last w hw => intro _ sp fr la _; simp [exp, itemsF]; exact .nil
  | plain t ts has ws out rest h1 h2 h3 h4 h5 ih =>
    intro hok sp fr la hsp
    cases hok with
    | cons _ _ ht hk hts hadj =>
      obtain ⟨k, u, x, b, a, kids⟩ := t
      have hrest := ih hts false false a (.inr (by simp [T.after]))
      have e : exp (ws ++ ⟨some (tkOf (.mk k u x b a kids)), out⟩ :: rest) sp = (tkOf (.mk k u x b a kids), out, sp || has) :: exp rest false := by
        cases has with
        | true => obtain ⟨w, hw, rfl⟩ := h1 rfl; simp [exp]
        | false => rw [h2 rfl]; simp [exp]
      rw [e]
      simp only [itemsF]
      rw [if_neg (by exact h3), List.nil_append]
      refine .cons ⟨isIt_own ht h4 _ _, ?_⟩ hrest
      intro h0
      unfold spOf at h0 ⊢
      cases fr with
      | true => simp at h0
      | false =>
        have hs := hsp.resolve_left (by simp)
        simp only [headBefore, T.before] at hs
        show (sp || has) = true ↔ _
        rw [hs]
        cases b <;> cases la <;> simp
  | opened t ts has ws nl out kc rest h1 h2 h3 h4 h5 h6 h7 ih1 ih2 =>
    intro hok sp fr la hsp
    cases hok with
    | cons _ _ ht hk hts hadj =>
      obtain ⟨k, u, x, b, a, kids⟩ := t
      have hrest := ih2 hts false false a (.inr (by simp [T.after]))
      have hnl : ∃ sp2, exp (nl ++ (kc ++ ⟨some ⟨closeKind k, 0, []⟩, [closer k]⟩ :: rest)) false = exp kc sp2 ++ (⟨closeKind k, 0, []⟩, [closer k], expSp kc sp2) :: exp rest false := by
        rcases h5 with rfl | ⟨w, hw, rfl⟩
        · exact ⟨false, by rw [List.nil_append, exp_append]; simp [exp]⟩
        · exact ⟨true, by simp only [List.cons_append, List.nil_append, exp]; rw [exp_append]; simp [exp]⟩
      obtain ⟨sp2, hsp2⟩ := hnl
      have hkids := ih1 hk sp2 true false (.inl rfl)
      have e : exp (ws ++ ⟨some (tkOf (.mk k u x b a kids)), out⟩ :: (nl ++ (kc ++ ⟨some ⟨closeKind k, 0, []⟩, [closer k]⟩ :: rest))) sp = (tkOf (.mk k u x b a kids), out, sp || has) :: (exp kc sp2 ++ (⟨closeKind k, 0, []⟩, [closer k], expSp kc sp2) :: exp rest false) := by
        cases has with
        | true => obtain ⟨w, hw, rfl⟩ := h1 rfl; simp [exp, hsp2]
        | false => rw [h2 rfl]; simp [exp, hsp2]
      show All2 Fits (exp (ws ++ ⟨some (tkOf (.mk k u x b a kids)), out⟩ :: (nl ++ (kc ++ ⟨some ⟨closeKind k, 0, []⟩, [closer k]⟩ :: rest))) sp) _
      rw [e]
      simp only [itemsF]
      rw [if_pos (by exact h3)]
      refine .cons ⟨isIt_own ht h4 _ _, ?_⟩ ?_
      · intro h0
        unfold spOf at h0 ⊢
        cases fr with
        | true => simp at h0
        | false =>
          have hs := hsp.resolve_left (by simp)
          simp only [headBefore, T.before] at hs
          show (sp || has) = true ↔ _
          rw [hs]
          cases b <;> cases la <;> simp
      · rw [List.append_assoc]
        exact hkids.append (.cons (fits_close k h3 _) hrest)
end Css
end Go.Proofs.YtkfdcbdlcipmfaaGreatFmt
