/- Walks: the reference: plain texts, names. -/
import Derived.Test.YtkfdcbdlcipmfaaGreatFmtG18
import Derived.Test.YtkfdcbdlcipmfaaGreatFmtG03
import Derived.Test.YtkfdcbdlcipmfaaGreatFmtG04
set_option linter.unusedVariables false
set_option linter.unusedSimpArgs false
namespace Go.Proofs.YtkfdcbdlcipmfaaGreatFmt
open Go.RowKit Css
theorem runeS {s : ByteArray} {ds : List Int} (h : Suf s ds) (hs : (s.size : Int) ≤ 140737488355328) (w : World) (n : Nat) (hn : n = (runeQ s (pos s ds)).2) : Calls Tryz.prog 52 #[.string s, .int .i64 (pos s ds : Nat)] w fun e w' => e = .returned (.tuple #[.int .i64 (pk ds 0), .int .i64 (n : Nat)]) ∧ w = w' := by
  subst hn
  refine (rune_any s (pos s ds) hs w).mono ?_
  rintro e w' ⟨he, hw⟩
  exact ⟨by rw [he, (rune_suf h).1], hw⟩
def plainGo (first : Bool) (D : List Int) : Bool := D.all okC && !(first && pk D 0 == 65279)
theorem pos_pos {s : ByteArray} {ds : List Int} (h : Suf s ds) : (pos s ds : Int) < (s.size : Int) ↔ ds ≠ [] := by
  have hb := h.bw_le
  unfold pos
  cases ds with
  | nil => simp [bw]
  | cons c t =>
    have := (wd_pos c).1
    simp only [bw] at hb ⊢
    constructor
    · intro _; simp
    · intro _; omega
set_option maxHeartbeats 800000 in
set_option maxRecDepth 100000 in
theorem plain_any (s : ByteArray) (hs : (s.size : Int) ≤ 140737488355328) (w : World) : Calls Tryz.prog 43 #[.string s] w (RetB (isPlainB s.data.toList) w) := by
  have HS := Lib.hid hs
  have HP : Hid (isPlainB s.data.toList = plainGo (((pos s (dec s.data.toList) : Nat) : Int) == 0) (dec s.data.toList)) := by
    show _ = _
    unfold isPlainB plainGo okDec
    rw [pos_all]; simp
  have HSA := Lib.hid (suf_all s)
  have hp0 := pos_all s
  generalize dec s.data.toList = ds at HP HSA hp0
  have HP0 := Lib.hid hp0
  clear hs hp0
  rename World => w0
  go_enter Tryz.func43, Tryz.ntmps43
  go_wp2_with fail
  go_loopg [3] ds.length (fun k p3 wr => ∃ D : List Int, p3 = .int .i64 (pos s D : Nat) ∧ D.length = k ∧ wr = w0 ∧ Hid (Suf s D) ∧ Hid (isPlainB s.data.toList = plainGo ((pos s D : Int) == 0) D))
  case atStart => exact ⟨ds, by rw [HP0.out]; rfl, rfl, rfl, HSA.out, HP.out⟩
  case round =>
    obtain ⟨D, rfl, hD, rfl, HSF, HB⟩ := hrel
    clear HP HSA HP0
    have hps : (pos s D : Int) ≤ 140737488355328 := by have := @pos_le s D; have := HS.out; omega
    by_cases hD0 : D = []
    · have hle : (s.size : Int) ≤ (pos s D : Int) := Int.not_lt.1 (fun h => (pos_pos HSF.out).1 h hD0)
      have HF : Hid (isPlainB s.data.toList = true) := by show _ = _; rw [HB.out, hD0]; simp [plainGo]
      clear hD0
      go_wp2_with fail
      go_ret
      exact RetB.mk' (by rw [HF.out])
    · have hlt := (pos_pos HSF.out).2 hD0
      obtain ⟨n, hn⟩ : ∃ n : Nat, n = (runeQ s (pos s D)).2 := ⟨_, rfl⟩
      have HN := Lib.hid hn
      have HPT : Hid ((pos s D.tail : Nat) = pos s D + n) := by show _ = _; rw [hn]; exact (rune_suf HSF.out).2.symm
      have hnb : (n : Int) ≤ 140737488355328 := by have := HPT.out; have := @pos_le s D.tail; have := HS.out; omega
      have HCT : Hid (∃ t, D = pk D 0 :: t ∧ D.tail = t) := by
        cases D with
        | nil => exact absurd rfl hD0
        | cons c t => exact ⟨t, by simp, rfl⟩
      have HLT : Hid (D.tail.length < D.length) := by
        obtain ⟨t, h1, h2⟩ := HCT.out
        show _ < _
        rw [h2]; rw [h1]; simp
      have HPN : Hid (¬ (pos s D.tail : Int) = 0) := by
        have h1 := HPT.out
        have h2 := HSF.out.bw_le
        obtain ⟨t, h3, h4⟩ := HCT.out
        have h5 := (wd_pos (pk D 0)).1
        have h6 : bw D = wd (pk D 0) + bw t := by rw [h3]; simp [bw]
        show ¬ _
        unfold pos at *
        rw [h4] at h1 ⊢
        omega
      clear hn hD0
      have hway : ((pk D 0 == -2) = true ∧ Hid (isPlainB s.data.toList = false)) ∨ ((pk D 0 == -2) = false ∧ (pk D 0 == 0) = true ∧ Hid (isPlainB s.data.toList = false)) ∨ ((pk D 0 == -2) = false ∧ (pk D 0 == 0) = false ∧ ((pos s D : Int) == 0) = true ∧ (pk D 0 == 65279) = true ∧ Hid (isPlainB s.data.toList = false)) ∨
          ((pk D 0 == -2) = false ∧ (pk D 0 == 0) = false ∧ ((pos s D : Int) == 0) = true ∧ (pk D 0 == 65279) = false ∧ Hid (isPlainB s.data.toList = plainGo ((pos s D.tail : Int) == 0) D.tail)) ∨ ((pk D 0 == -2) = false ∧ (pk D 0 == 0) = false ∧ ((pos s D : Int) == 0) = false ∧ Hid (isPlainB s.data.toList = plainGo ((pos s D.tail : Int) == 0) D.tail)) := by
        have hid : ∀ p : Prop, Hid p = p := fun _ => rfl
        simp only [hid]
        rw [HB.out]
        obtain ⟨t, h1, h2⟩ := HCT.out
        have h3 : ((pos s D.tail : Int) == 0) = false := by simpa using HPN.out
        rw [h3, h2]
        have e : ∀ f, plainGo f D = ((okC (pk D 0) && t.all okC) && !(f && pk D 0 == 65279)) := by
          intro f
          unfold plainGo
          conv => lhs; rw [h1]
          simp
        have e2 : plainGo false t = t.all okC := by simp [plainGo]
        rw [e, e2]
        generalize t.all okC = X
        unfold okC
        generalize (pk D 0) = c
        cases (c == -2) <;> cases (c == 0) <;> cases ((pos s D : Int) == 0) <;> cases (c == 65279) <;> cases X <;> simp
      rcases hway with ⟨q1, HF⟩ | ⟨q1, q2, HF⟩ | ⟨q1, q2, q3, q4, HF⟩ | ⟨q1, q2, q3, q4, HF⟩ | ⟨q1, q2, q3, HF⟩
      iterate 3
        · go_wp2_with (go_at_call 52; go_must (refine (runeS HSF.out HS.out _ n HN.out).mono ?_; rintro e w' ⟨rfl, rfl⟩))
          go_ret
          exact RetB.mk' (by rw [HF.out])
      all_goals
        go_wp2_with (go_at_call 52; go_must (refine (runeS HSF.out HS.out _ n HN.out).mono ?_; rintro e w' ⟨rfl, rfl⟩))
        go_roundg D.tail.length
        case measure => have := HLT.out; omega
        case rel => exact ⟨D.tail, by rw [HPT.out]; go_num, rfl, rfl, HSF.out.tail, HF.out⟩
def lowQ (l : List UInt8) : Bool := l.all fun b => decide (b.toNat < 244)
set_option maxHeartbeats 800000 in
set_option maxRecDepth 100000 in
theorem low_any (s : ByteArray) (hs : (s.size : Int) ≤ 140737488355328) (w : World) : Calls Tryz.prog 38 #[.string s] w (RetB (lowQ s.data.toList) w) := by
  have HS := Lib.hid hs
  rename World => w0
  go_enter Tryz.func38, Tryz.ntmps38
  go_wp2_with fail
  go_loopg [6] s.size (fun k p6 wr => ∃ i : Nat, p6 = .int .i64 i ∧ i + k = s.size ∧ wr = w0 ∧ Hid (lowQ s.data.toList = lowQ (s.data.toList.drop i)))
  case atStart => exact ⟨0, rfl, by omega, rfl, rfl⟩
  case round =>
    obtain ⟨i, rfl, hik, rfl, HB⟩ := hrel
    have hi0 : (0 : Int) ≤ (i : Int) := by omega
    have hi1 : (i : Int) ≤ 140737488355328 := by omega
    by_cases hlt : i < s.size
    · have hlti : (i : Int) < (s.size : Int) := by omega
      have hx := bt_get s i
      have hr := bt_range s i
      obtain ⟨x, hx1, hx2⟩ := drop_bt s i hlt
      have HX : Hid (lowQ s.data.toList = (decide (bt s i < 244) && lowQ (s.data.toList.drop (i + 1)))) := by
        show _ = _
        rw [HB.out, hx2]
        unfold lowQ
        rw [List.all_cons]
        congr 1
        rw [Bool.eq_iff_iff]; simp; omega
      clear hx1 hx2 HB
      generalize bt s i = xi at hx hr HX
      by_cases hq : xi < 244
      · have HF : Hid (lowQ s.data.toList = lowQ (s.data.toList.drop (i + 1))) := by
          show _ = _; rw [HX.out]; simp [hq]
        go_wp2_with fail
        go_roundg (s.size - (i + 1))
        case measure => omega
        case rel => exact ⟨i + 1, by go_num, by omega, rfl, HF.out⟩
      · have HF : Hid (lowQ s.data.toList = false) := by
          show _ = _; rw [HX.out]; simp [hq]
        go_wp2_with fail
        go_ret
        exact RetB.mk' (by rw [HF.out])
    · have hle : (s.size : Int) ≤ (i : Int) := by omega
      have HF : Hid (lowQ s.data.toList = true) := by
        show _ = _; rw [HB.out, List.drop_eq_nil_of_le (show s.size ≤ i by omega)]; rfl
      go_wp2_with fail
      go_ret
      exact RetB.mk' (by rw [HF.out])
end Go.Proofs.YtkfdcbdlcipmfaaGreatFmt
/- Walks: the reference: which kinds open. -/
set_option linter.unusedVariables false
set_option linter.unusedSimpArgs false
namespace Go.Proofs.YtkfdcbdlcipmfaaGreatFmt
open Go.RowKit Css
/-! Which kinds open. -/
def RetK (c : Int) (b : Bool) (w : World) (e : Ending) (w' : World) : Prop := e = .returned (.tuple #[.int .i64 c, .bool b]) ∧ w = w'
def openQ (k : Int) : Bool := decide (opens k)
def closeQ (k : Int) : Int := if opens k then closeKind k else 0
set_option maxHeartbeats 800000 in
set_option maxRecDepth 100000 in
theorem opens_any (k : Int) (w : World) : Calls Tryz.prog 30 #[.int .i64 k] w (RetK (closeQ k) (openQ k) w) := by
  have hq : ((k == 27) = true ∧ Hid (closeQ k = 8 ∧ openQ k = true)) ∨ ((k == 27) = false ∧ (k == 33) = true ∧ Hid (closeQ k = 8 ∧ openQ k = true)) ∨ ((k == 27) = false ∧ (k == 33) = false ∧ (k == 32) = true ∧ Hid (closeQ k = 7 ∧ openQ k = true)) ∨ ((k == 27) = false ∧ (k == 33) = false ∧ (k == 32) = false ∧ (k == 31) = true ∧ Hid (closeQ k = 6 ∧ openQ k = true)) ∨ ((k == 27) = false ∧ (k == 33) = false ∧ (k == 32) = false ∧ (k == 31) = false ∧ Hid (closeQ k = 0 ∧ openQ k = false)) := by
    have hid : ∀ p : Prop, Hid p = p := fun _ => rfl
    simp only [beq_iff_eq, beq_eq_false_iff_ne, hid]
    by_cases c1 : k = 27
    · left; subst c1; exact ⟨rfl, by decide, by decide⟩
    by_cases c2 : k = 33
    · right; left; subst c2; exact ⟨by decide, rfl, by decide, by decide⟩
    by_cases c3 : k = 32
    · right; right; left; subst c3; exact ⟨by decide, by decide, rfl, by decide, by decide⟩
    by_cases c4 : k = 31
    · right; right; right; left; subst c4; exact ⟨by decide, by decide, by decide, rfl, by decide, by decide⟩
    · right; right; right; right
      have : ¬ opens k := by unfold opens; omega
      exact ⟨c1, c2, c3, c4, by unfold closeQ; rw [if_neg this], by unfold openQ; simp [this]⟩
  rcases hq with ⟨q1, HF⟩ | ⟨q1, q2, HF⟩ | ⟨q1, q2, q3, HF⟩ | ⟨q1, q2, q3, q4, HF⟩ | ⟨q1, q2, q3, q4, HF⟩
  all_goals
    go_enter Tryz.func30, Tryz.ntmps30
    go_wp2
    go_ret2
    exact ⟨by rw [HF.out.1, HF.out.2]; rfl, rfl⟩
end Go.Proofs.YtkfdcbdlcipmfaaGreatFmt
/- Walks: the reference: names; what opens; how tokens behave. -/
set_option linter.unusedVariables false
set_option linter.unusedSimpArgs false
namespace Go.Proofs.YtkfdcbdlcipmfaaGreatFmt
open Go.RowKit Css
theorem dec_x (l : List UInt8) : dec (120 :: l) = 120 :: dec l := by
  rw [dec]
  have h : runeL (120 :: l) = (120, 1) := by rw [runeL_cons]; rfl
  rw [h]; rfl
theorem plain_x (s : ByteArray) : isPlainB ((⟨#[120]⟩ : ByteArray) ++ s).data.toList = okDec s.data.toList := by
  have e : ((⟨#[120]⟩ : ByteArray) ++ s).data.toList = 120 :: s.data.toList := by simp
  rw [e]
  unfold isPlainB okDec
  rw [dec_x]
  simp [okC]
theorem empty_of {s : ByteArray} (h : s.size = 0) : s = ⟨#[]⟩ := by
  obtain ⟨a⟩ := s
  have : a.size = 0 := h
  rw [Array.size_eq_zero_iff] at this
  rw [this]
set_option maxHeartbeats 800000 in
set_option maxRecDepth 100000 in
theorem isName_any (s : ByteArray) (hs : (s.size : Int) ≤ 2147483647) (w : World) : Calls Tryz.prog 42 #[.string s] w (RetB (isNameB s.data.toList) w) := by
  by_cases h0 : s.size = 0
  · have := empty_of h0
    subst this
    clear h0
    go_enter Tryz.func42, Tryz.ntmps42
    go_wp2
    go_ret
    exact RetB.mk' rfl
  · have HF : Hid (isNameB s.data.toList = okDec s.data.toList) := by
      show _ = _; unfold isNameB
      have : s.data.toList.isEmpty = false := by
        cases hl : s.data.toList with
        | nil => have : s.data.toList.length = s.size := rfl; rw [hl] at this; simp at this; omega
        | cons a t => rfl
      rw [this]; rfl
    have HX := Lib.hid (plain_x s)
    have hse : s.toList.isEmpty = false ∧ (!s.toList.isEmpty) = true := by
      have := toList_ne s (by omega)
      simp [this]
    obtain ⟨hse1, hse2⟩ := hse
    have hsz : (((⟨#[120]⟩ : ByteArray) ++ s).size : Int) ≤ 140737488355328 := by
      rw [ByteArray.size_append]; show ((1 + s.size : Nat) : Int) ≤ _; omega
    have HSZ := Lib.hid hsz
    have hsum : 1 + s.size ≤ 2147483648 := by omega
    clear h0 hsz
    go_enter Tryz.func42, Tryz.ntmps42
    go_wp2_with fail
    refine (plain_any _ HSZ.out _).mono ?_
    rintro e w' ⟨rfl, rfl⟩
    rw [HX.out]
    cases h : okDec s.data.toList
    all_goals
      have H := Lib.hid h
      clear h
      go_wp2_with fail
      go_ret
      exact RetB.mk' (by rw [HF.out, H.out])
set_option maxRecDepth 100000 in
theorem IsName_any (s : ByteArray) (hs : (s.size : Int) ≤ 2147483647) (w : World) : Calls Tryz.prog 29 #[.string s] w (RetB (isNameB s.data.toList) w) := by
  go_enter Tryz.func29, Tryz.ntmps29
  go_wp2_with (go_at_call 42; go_must (refine (isName_any s hs _).mono ?_; rintro e w' ⟨rfl, rfl⟩))
  go_ret
  exact RetB.mk' rfl
set_option maxHeartbeats 800000 in
set_option maxRecDepth 100000 in
theorem decoded_any (s : ByteArray) (hs : (s.size : Int) ≤ 140737488355328) (w : World) : Calls Tryz.prog 35 #[.string s] w (RetS (enc (name (dec s.data.toList)).1) w) := by
  have HX0 : Hid (LX w.heap.size s (dec s.data.toList) (.slice none 0 0) false (w.alloc (.cells #[.string s, .int .i64 0, .slice none 0 0, .bool false] 146))) := by
    refine ⟨⟨146, ?_⟩, suf_all s, hs⟩
    rw [pos_all]
    exact heap_alloc_new w _
  go_enter Tryz.func35, Tryz.ntmps35
  go_wp2_with fail
  refine (name_any HX0.out).mono ?_
  rintro e w1 ⟨rfl, hto⟩
  have HT := Lib.hid hto
  clear hto
  go_wp2_with fail
  go_ret
  exact ⟨rfl, HT.out.lk.below (Nat.le_refl _) ((Below.refl _ _).alloc (Nat.le_refl _) _) (by simp)⟩
end Go.Proofs.YtkfdcbdlcipmfaaGreatFmt
/- Walks: the statements: a text that may be printed. -/
set_option linter.unusedVariables false
set_option linter.unusedSimpArgs false
namespace Go.Proofs.YtkfdcbdlcipmfaaGreatFmt
open Go.RowKit Css
def lowB0 (s : List UInt8) (ascii : Bool) : Bool := !ascii || lowQ s
theorem lowB0_eq (s : List UInt8) (ascii : Bool) : lowB0 s ascii = lowB s ascii := by
  unfold lowB0 lowB lowQ
  rfl
set_option maxRecDepth 100000 in
theorem low2_any (s : ByteArray) (hs : (s.size : Int) ≤ 140737488355328) (ascii : Bool) (w : World) : Calls Tryz.prog 26 #[.string s, .bool ascii] w (RetB (lowB s.data.toList ascii) w) := by
  have HS := Lib.hid hs
  have HF := Lib.hid (lowB0_eq s.data.toList ascii)
  clear hs
  cases ascii
  · go_enter Tryz.func26, Tryz.ntmps26
    go_wp2_with fail
    go_ret
    exact RetB.mk' (by rw [← HF.out]; rfl)
  · go_enter Tryz.func26, Tryz.ntmps26
    go_wp2_with (go_at_call 38; go_must (refine (low_any _ HS.out _).mono ?_; rintro e w' ⟨rfl, rfl⟩))
    go_ret
    exact RetB.mk' (by rw [← HF.out]; rfl)
end Go.Proofs.YtkfdcbdlcipmfaaGreatFmt
/- Walks: the reference: whitespace behind each node. -/
set_option linter.unusedVariables false
set_option linter.unusedSimpArgs false
namespace Go.Proofs.YtkfdcbdlcipmfaaGreatFmt
open Go.RowKit Css
def setPre (all : Bool) (l : List RN) (i : Nat) : List RN := (setR all l).take i ++ l.drop i
theorem setPre_zero (all : Bool) (l : List RN) : setPre all l 0 = l := rfl
theorem setPre_len (all : Bool) (l : List RN) (i : Nat) : (setPre all l i).length = l.length := by
  unfold setPre; rw [List.length_append, List.length_take, List.length_drop, setR_len]; omega
theorem setPre_all (all : Bool) (l : List RN) : setPre all l l.length = setR all l := by
  unfold setPre; rw [List.drop_length, List.append_nil, ← setR_len all l, List.take_length]
theorem setPre_at (all : Bool) (l : List RN) (i j : Nat) (h : i ≤ j) (hl : i ≤ l.length) : (setPre all l i)[j]? = l[j]? := by
  unfold setPre
  have : ((setR all l).take i).length = i := by rw [List.length_take, setR_len]; omega
  rw [List.getElem?_append_right (by omega), this, List.getElem?_drop]
  congr 1; omega
theorem setR_get (all : Bool) : ∀ (l : List RN) (i : Nat) (n : RN), l[i]? = some n → (setR all l)[i]? = some { n with after := n.after || all || needs n.cp ((l.drop (i + 1)).map RN.cp) }
  | [], i, n, h => by simp at h
  | a :: r, 0, n, h => by simp at h; subst h; rfl
  | a :: r, i + 1, n, h => by simpa [setR] using setR_get all r i n (by simpa using h)
theorem setPre_succ (all : Bool) (l : List RN) (i : Nat) (n : RN) (h : l[i]? = some n) : setPre all l (i + 1) = (setPre all l i).set i { n with after := n.after || all || needs n.cp ((l.drop (i + 1)).map RN.cp) } := by
  unfold setPre
  have hlt : i < l.length := (List.getElem?_eq_some_iff.1 h).1
  have hl : ((setR all l).take i).length = i := by rw [List.length_take, setR_len]; omega
  rw [List.set_append_right _ _ (by omega), hl, Nat.sub_self, drop_cons2 h, List.set_cons_zero, List.take_add_one, setR_get all l i n h]
  simp
where
  drop_cons2 {l : List RN} {i : Nat} {n : RN} (h : l[i]? = some n) : l.drop i = n :: l.drop (i + 1) := by
    obtain ⟨hlt, e⟩ := List.getElem?_eq_some_iff.1 h
    rw [← e]; exact List.drop_eq_getElem_cons hlt
theorem row_store {w : World} {B : Nat} {A : Option Addr} {c : Nat} {l : List RN} {i : Nat} {n : RN} {x : Bool} {q : Nat} (h : w.ownsRow B 50 6 (.slice A l.length c) l.length (nRow l)) (hA : A = some ⟨q, 0, none⟩) (hn : l[i]? = some n) :
    (w.setCell ⟨q, i * 6 + 5, none⟩ (.bool x)).ownsRow B 50 6 (.slice A l.length c) l.length (nRow (l.set i { n with after := x })) ∧ Below B w (w.setCell ⟨q, i * 6 + 5, none⟩ (.bool x)) := by
  subst hA
  have h1 := h.stored (i * 6 + 5) (.bool x)
  rw [nRow_set l i n x hn] at h1
  exact ⟨h1.1, (Below.refl _ _).grown h1.2 (Nat.le_of_lt (Nat.lt_of_le_of_lt (own_lt h rfl).2.1 (own_lt h rfl).1)) fun k hk => by injection hk with hk; subst hk; exact (own_lt h rfl).2.1⟩
set_option maxHeartbeats 1600000 in
set_option maxRecDepth 100000 in
theorem set_all (v : Value) (l : List RN) (hl : l.length ≤ 1000) (w : World) (h : NodesAt v l w) : Calls Tryz.prog 28 #[v, .bool true] w (RetN 50 (setR true l) w) := by
  obtain ⟨A, c, rfl⟩ := h.slice
  have HA : Hid (A = none → l.length = 0 ∧ c = 0) := fun hA => h.none_len hA
  have HC : Hid (∀ ad, A = some ad → ∀ j u, (nRow l)[j]? = some u → w.cell? (ad.add j) = some u) := by
    intro ad hA; subst hA; exact h.cellsOf
  have HL := Lib.hid hl
  rename World => w0
  clear h
  go_enter Tryz.func28, Tryz.ntmps28
  go_wp2_with (at_builtin; go_must (refine wpList_appN rfl _ _ 31 50 rfl Tryz.underlying31 info50 rfl (by decide) (World.ownsRow_nil w0 w0.heap.size 50 6) (Nat.le_refl _) A l.length c (nRow l) (nRow_len l) HA.out HC.out (nRow_one l) (by have := HL.out; omega) (by have := HL.out; unfold maxLen; omega) rfl rfl ?_; intro v1 w1 hw1 _ hb1; rw [Nat.zero_add, List.nil_append] at hw1; obtain ⟨A1, c1, rfl⟩ := own_slice hw1; have HW1 := Lib.hid hw1; have HB1 := Lib.hid hb1; clear hw1 hb1))
  go_loopg [6, 7, 12] l.length (fun k p6 p7 p12 wr => ∃ i : Nat, p12 = .int .i64 i ∧ i + k = l.length ∧ Hid (Below w0.heap.size w0 wr) ∧ Hid (wr.ownsRow w0.heap.size 50 6 (.slice A1 l.length c1) l.length (nRow (setPre true l i))))
  case atStart => exact ⟨0, rfl, by omega, HB1.out, HW1.out⟩
  case round =>
    obtain ⟨i, rfl, hik, HB, HO⟩ := hrel
    have hi0 : (0 : Int) ≤ (i : Int) := by omega
    have hi1 : (i : Int) ≤ 1000 := by omega
    by_cases hlt : i < l.length
    · have hlti : (i : Int) < (l.length : Int) := by omega
      obtain ⟨n, hn⟩ : ∃ n, l[i]? = some n := ⟨l[i], List.getElem?_eq_getElem hlt⟩
      have HS : Hid (setPre true l (i + 1) = (setPre true l i).set i { n with after := true }) := by
        show _ = _; rw [setPre_succ true l i n hn]; simp
      have hn2 : (setPre true l i)[i]? = some n := by rw [setPre_at true l i i (Nat.le_refl _) (by omega)]; exact hn
      have hlp := setPre_len true l i
      have hown : wr.ownsRow w0.heap.size 50 6 (.slice A1 (setPre true l i).length c1) (setPre true l i).length (nRow (setPre true l i)) := by rw [hlp]; exact HO.out
      obtain ⟨q, hA1, hq, hc⟩ := (own_nodes hown).node hn2
      have HST := Lib.hid (row_store (x := true) hown hA1 hn2)
      have hc5 := hc.c5
      have hf5 : wr.frozen? ⟨q, i * 6 + 5, none⟩ = false := by subst hA1; exact hown.frozenAt _
      subst hA1
      clear hc hn hn2 hown HO
      go_wp2_with fail
      go_roundg (l.length - (i + 1))
      case measure => omega
      case rel => exact ⟨i + 1, by go_num, by omega, HB.out.trans HST.out.2, by have := HST.out.1; rw [hlp] at this; show World.ownsRow _ _ _ _ _ _ _; rw [HS.out]; exact this⟩
    · have hle : (l.length : Int) ≤ (i : Int) := by omega
      have hil : i = l.length := by omega
      go_wp2_with fail
      go_ret
      subst hil
      have := HO.out
      rw [setPre_all] at this
      exact ⟨_, rfl, by rw [setR_len]; exact this, HB.out⟩
end Go.Proofs.YtkfdcbdlcipmfaaGreatFmt
/- Walks: the reference: how tokens behave beside others. -/
set_option linter.unusedVariables false
set_option linter.unusedSimpArgs false
namespace Go.Proofs.YtkfdcbdlcipmfaaGreatFmt
open Go.RowKit Css
def clsI (k : Int) : Int := (cls k : Nat)
set_option maxHeartbeats 1600000 in
set_option maxRecDepth 100000 in
theorem class_any (k : Int) (w : World) : Calls Tryz.prog 50 #[.int .i64 k] w (RetI (clsI k) w) := by
  have hid : ∀ p : Prop, Hid p = p := fun _ => rfl
  by_cases c1 : k = 29
  · subst c1
    go_enter Tryz.func50, Tryz.ntmps50
    go_wp2
    go_ret
    exact RetI.mk' (by decide)
  by_cases c2 : k = 1
  · subst c2
    go_enter Tryz.func50, Tryz.ntmps50
    go_wp2
    go_ret
    exact RetI.mk' (by decide)
  by_cases c3 : k = 28
  · subst c3
    go_enter Tryz.func50, Tryz.ntmps50
    go_wp2
    go_ret
    exact RetI.mk' (by decide)
  by_cases c4 : k = 26
  · subst c4
    go_enter Tryz.func50, Tryz.ntmps50
    go_wp2
    go_ret
    exact RetI.mk' (by decide)
  by_cases c5 : k = 27
  · subst c5
    go_enter Tryz.func50, Tryz.ntmps50
    go_wp2
    go_ret
    exact RetI.mk' (by decide)
  by_cases c6 : k = 30
  · subst c6
    go_enter Tryz.func50, Tryz.ntmps50
    go_wp2
    go_ret
    exact RetI.mk' (by decide)
  by_cases c7 : k = 34
  · subst c7
    go_enter Tryz.func50, Tryz.ntmps50
    go_wp2
    go_ret
    exact RetI.mk' (by decide)
  have HF : Hid (clsI k = 0) := by
    show _ = _
    unfold clsI cls
    rw [if_neg (by omega), if_neg (by omega)]; rfl
  have k1 : (k == 29) = false := by simpa using c1
  have k2 : (k == 1) = false := by simpa using c2
  have k3 : (k == 28) = false := by simpa using c3
  have k4 : (k == 26) = false := by simpa using c4
  have k5 : (k == 27) = false := by simpa using c5
  have k6 : (k == 30) = false := by simpa using c6
  have k7 : (k == 34) = false := by simpa using c7
  clear c1 c2 c3 c4 c5 c6 c7 hid
  go_enter Tryz.func50, Tryz.ntmps50
  go_wp2
  go_ret
  exact RetI.mk' HF.out.symm
/-- The sign of a token that is one; 0: it is none. -/
def sgI (k : Int) (s : ByteArray) : Int := if clsI k = 0 ∧ k ≠ 36 ∧ s.size = 1 then bt s 0 else 0
def itV (k u : Int) (s : ByteArray) (sp : Int) : Value := .agg #[.int .i64 k, .int .i64 u, .string s, .int .i64 sp]
def RetU (i : Int) (w : World) (e : Ending) (w' : World) : Prop := e = .returned (.int .u8 i) ∧ Below w.heap.size w w'
theorem ret_u8 {a b : Int} (h : a = b) : Ending.returned (.int .u8 a) = .returned (.int .u8 b) := by rw [h]
set_option maxHeartbeats 1600000 in
set_option maxRecDepth 100000 in
theorem signs_any (k u : Int) (s : ByteArray) (sp : Int) (w : World) : Calls Tryz.prog 51 #[.agg #[.int .i64 k, .int .i64 u, .string s, .int .i64 sp]] w (RetU (sgI k s) w) := by
  have HBW : Hid (Below w.heap.size w (w.alloc (.cells #[.int .i64 k, .int .i64 u, .string s, .int .i64 sp] 34))) := (Below.refl _ _).alloc (Nat.le_refl _) _
  by_cases c1 : clsI k = 0
  · have HC := Lib.hid c1
    by_cases c2 : k = 36
    · have HF : Hid (sgI k s = 0) := by show _ = _; unfold sgI; rw [if_neg (fun h => h.2.1 c2)]
      have k2 : (k == 36) = true ∧ (k != 36) = false := by subst c2; exact ⟨rfl, rfl⟩
      obtain ⟨k2, k3⟩ := k2
      clear c1 c2
      go_enter Tryz.func51, Tryz.ntmps51
      go_wp2_with (go_at_call 50; go_must (refine (class_any _ _).mono ?_; rintro e w' ⟨rfl, rfl⟩; rw [HC.out]))
      go_ret
      exact ⟨ret_u8 HF.out.symm, HBW.out⟩
    · have k2 : (k == 36) = false ∧ (k != 36) = true := by simp [c2]
      obtain ⟨k2, k3⟩ := k2
      by_cases c3 : s.size = 1
      · have HF : Hid (sgI k s = bt s 0) := by show _ = _; unfold sgI; rw [if_pos ⟨c1, c2, c3⟩]
        have hs : ((s.size : Int) == 1) = true := by simp; omega
        have hs0 : (0 : Int) < (s.size : Int) := by omega
        have hx := bt_get s 0
        have hr := bt_range s 0
        generalize bt s 0 = x at hx hr HF
        clear c1 c2 c3
        go_enter Tryz.func51, Tryz.ntmps51
        go_wp2_with (go_at_call 50; go_must (refine (class_any _ _).mono ?_; rintro e w' ⟨rfl, rfl⟩; rw [HC.out]))
        go_ret
        exact ⟨ret_u8 HF.out.symm, HBW.out⟩
      · have HF : Hid (sgI k s = 0) := by show _ = _; unfold sgI; rw [if_neg (fun h => c3 h.2.2)]
        have hs : ((s.size : Int) == 1) = false := by simp; omega
        clear c1 c2 c3
        go_enter Tryz.func51, Tryz.ntmps51
        go_wp2_with (go_at_call 50; go_must (refine (class_any _ _).mono ?_; rintro e w' ⟨rfl, rfl⟩; rw [HC.out]))
        go_ret
        exact ⟨ret_u8 HF.out.symm, HBW.out⟩
  · have HF : Hid (sgI k s = 0) := by show _ = _; unfold sgI; rw [if_neg (fun h => c1 h.1)]
    have k1 : (clsI k == 0) = false := by simpa using c1
    clear c1
    go_enter Tryz.func51, Tryz.ntmps51
    go_wp2_with (go_at_call 50; go_must (refine (class_any _ _).mono ?_; rintro e w' ⟨rfl, rfl⟩))
    go_ret
    exact ⟨ret_u8 HF.out.symm, HBW.out⟩
end Go.Proofs.YtkfdcbdlcipmfaaGreatFmt
/- Walks: the reference: a text that is one token. -/
set_option linter.unusedVariables false
set_option linter.unusedSimpArgs false
namespace Go.Proofs.YtkfdcbdlcipmfaaGreatFmt
open Go.RowKit Css
theorem tkRow_none {s : ByteArray} {xs : List Value} (h : TkRow s [] xs) : xs = [] := by
  generalize e : ([] : List (Tk × List Int × List Int)) = l at h
  cases h with
  | nil => rfl
  | snoc l' xs' y id h' => simp at e
theorem tkRow_one {s : ByteArray} {x : Tk × List Int × List Int} {xs : List Value} (h : TkRow s [x] xs) : ∃ id, xs = tkCells s x id := by
  generalize e : [x] = l at h
  cases h with
  | nil => cases e
  | snoc l' xs' y id h' =>
    cases l' with
    | nil =>
      simp only [List.nil_append, List.cons.injEq, and_true] at e
      subst e
      have := tkRow_none h'
      subst this
      exact ⟨id, rfl⟩
    | cons a t => simp at e
def oneKind (l : List (Tk × List Int × List Int)) (k : Int) : Bool := match l with | [x] => x.1.kind == k | _ => false
theorem loneB_eq (l : List UInt8) (k : Int) : loneB l k = (isPlainB l && !(tokens (dec l)).2.2 && ((tokens (dec l)).2.1 == 0) && oneKind (tokens (dec l)).1 k) := rfl
set_option maxHeartbeats 3200000 in
set_option maxRecDepth 100000 in
theorem lone_any (s : ByteArray) (hs : (s.size : Int) ≤ 2147483647) (k : Int) (w : World) : Calls Tryz.prog 49 #[.string s, .int .i64 k] w (RetBW (loneB s.data.toList k) w) := by
  have HS := Lib.hid hs
  have HL := Lib.hid (loneB_eq s.data.toList k)
  have HPL : Hid ((s.size : Int) ≤ 140737488355328) := by show _ ≤ _; omega
  clear hs
  go_enter Tryz.func49, Tryz.ntmps49
  go_wp2_with fail
  refine (tokens_any s HS.out _).mono ?_
  rintro e w1 ⟨out, A, c, xs, rfl, hown, hrow, hb⟩
  generalize (tokens (dec s.data.toList)).1 = tl at hown hrow HL
  generalize (tokens (dec s.data.toList)).2.1 = nc at HL ⊢
  generalize (tokens (dec s.data.toList)).2.2 = op at HL ⊢
  have HB := Lib.hid hb
  obtain ⟨Ao, co, hout⟩ := own_slice hown
  subst hout
  have hn0 : (0 : Int) ≤ (nc : Int) := by omega
  have hl0 : (0 : Int) ≤ (tl.length : Int) := by omega
  clear hb
  cases hp : isPlainB s.data.toList
  · have HP := Lib.hid hp
    clear hp hown hrow
    go_wp2_with (go_at_call 43; go_must (refine (plain_any _ HPL.out _).mono ?_; rintro e w' ⟨rfl, rfl⟩; rw [HP.out]))
    go_ret
    exact RetBW.mk' (by rw [HL.out, HP.out]; rfl) HB.out
  · have HP := Lib.hid hp
    cases op
    · cases hnc : ((nc : Int) == 0)
      · clear hp hown hrow
        have HNC : Hid ((nc == 0) = false) := by show _ = _; simpa using hnc
        go_wp2_with (go_at_call 43; go_must (refine (plain_any _ HPL.out _).mono ?_; rintro e w' ⟨rfl, rfl⟩; rw [HP.out]))
        go_ret
        exact RetBW.mk' (by rw [HL.out, HP.out, HNC.out]; rfl) HB.out
      · have HNC : Hid ((nc == 0) = true) := by show _ = _; simpa using hnc
        by_cases hl1 : tl.length = 1
        · obtain ⟨x, hx⟩ : ∃ x, tl = [x] := by
            cases tl with
            | nil => simp at hl1
            | cons a t =>
              cases t with
              | nil => exact ⟨a, rfl⟩
              | cons b t => simp at hl1
          subst hx
          obtain ⟨id, hxs⟩ := tkRow_one hrow
          obtain ⟨q, cap, hv, _, hlt⟩ := hown.form (by simp)
          have hcell := hown.cells (g := q) (by rw [hv]; rfl) 0 (.int .i64 x.1.kind) (by rw [hxs]; rfl)
          have hA : Ao = some ⟨q, 0, none⟩ := by injection hv
          subst hA
          have hc0 : w1.cell? ⟨q, 0, none⟩ = some (.int .i64 x.1.kind) := by
            have : (⟨q, 0, none⟩ : Addr).add 0 = ⟨q, 0, none⟩ := by unfold Addr.add; simp
            rw [this] at hcell; exact hcell
          have HK : Hid (oneKind [x] k = (x.1.kind == k)) := rfl
          clear hp hown hrow hv hcell hlt hxs hl1
          go_wp2_with (go_at_call 43; go_must (refine (plain_any _ HPL.out _).mono ?_; rintro e w' ⟨rfl, rfl⟩; rw [HP.out]))
          go_ret
          exact RetBW.mk' (by rw [HL.out, HP.out, HNC.out, HK.out]; simp) HB.out
        · have hlb : ((tl.length : Int) == 1) = false := by simp; omega
          have HK : Hid (oneKind tl k = false) := by
            show _ = _
            cases tl with
            | nil => rfl
            | cons a t =>
              cases t with
              | nil => simp at hl1
              | cons b t => rfl
          clear hp hown hrow hl1
          go_wp2_with (go_at_call 43; go_must (refine (plain_any _ HPL.out _).mono ?_; rintro e w' ⟨rfl, rfl⟩; rw [HP.out]))
          go_ret
          exact RetBW.mk' (by rw [HL.out, HP.out, HNC.out, HK.out]; rfl) HB.out
    · clear hp hown hrow
      go_wp2_with (go_at_call 43; go_must (refine (plain_any _ HPL.out _).mono ?_; rintro e w' ⟨rfl, rfl⟩; rw [HP.out]))
      go_ret
      exact RetBW.mk' (by rw [HL.out, HP.out]; rfl) HB.out
end Go.Proofs.YtkfdcbdlcipmfaaGreatFmt
/- Walks: the reference: a node that can be printed. Printed by genS23.py. -/
set_option linter.unusedVariables false
set_option linter.unusedSimpArgs false
namespace Go.Proofs.YtkfdcbdlcipmfaaGreatFmt
open Go.RowKit Css
def nV (k u d : Int) (s : ByteArray) (b a : Bool) : Value := .agg #[.int .i64 k, .int .i64 u, .int .i64 d, .string s, .bool b, .bool a]
def rnOf (k u d : Int) (s : ByteArray) (b a : Bool) : RN := ⟨k, u, d, s.data.toList, b, a⟩
abbrev nBlk (k u d : Int) (s : ByteArray) (b a : Bool) := (.cells #[.int .i64 k, .int .i64 u, .int .i64 d, .string s, .bool b, .bool a] 50 : Obj)
theorem isNode_name {k u d : Int} {s : ByteArray} {b a : Bool} (h : nameKind k) : isNodeB (rnOf k u d s b a) = isNameB s.data.toList := by
  unfold isNodeB rnOf; rw [if_pos h]
theorem isNode_func {u d : Int} {s : ByteArray} {b a : Bool} : isNodeB (rnOf 27 u d s b a) = (isNameB s.data.toList && !isUrlB s.data.toList) := by
  unfold isNodeB rnOf; rw [if_neg (by simp [nameKind]), if_pos rfl]
theorem isNode_str {u d : Int} {s : ByteArray} {b a : Bool} : isNodeB (rnOf 36 u d s b a) = okDec s.data.toList := by
  unfold isNodeB rnOf; rw [if_neg (by simp [nameKind]), if_neg (by simp [nameKind]), if_pos rfl]
theorem isNode_num {k u d : Int} {s : ByteArray} {b a : Bool} (h : k = 30 ∨ k = 34) : isNodeB (rnOf k u d s b a) = loneB s.data.toList k := by
  unfold isNodeB rnOf
  rw [if_neg (by show ¬ nameKind k; unfold nameKind; omega), if_neg (by show ¬ k = 27; omega), if_neg (by show ¬ k = 36; omega), if_pos h]
theorem isNode_sign {k u d : Int} {s : ByteArray} {b a : Bool} (h : signLike k) : isNodeB (rnOf k u d s b a) = (!(s.data.toList == [92]) && loneB s.data.toList k) := by
  have h' := h
  unfold signLike at h'
  unfold isNodeB rnOf
  rw [if_neg (by show ¬ nameKind k; unfold nameKind; omega), if_neg (by show ¬ k = 27; omega), if_neg (by show ¬ k = 36; omega), if_neg (by show ¬ (k = 30 ∨ k = 34); omega), if_neg (by show ¬ k = 26; omega), if_pos h]
theorem nBlk_below (k u d : Int) (s : ByteArray) (b a : Bool) (w : World) : Hid (Below w.heap.size w (w.alloc (nBlk k u d s b a))) := (Below.refl _ _).alloc (Nat.le_refl _) _
theorem node_kept {k u d : Int} {s : ByteArray} {b a : Bool} {w w1 : World} (h : Below (w.alloc (nBlk k u d s b a)).heap.size (w.alloc (nBlk k u d s b a)) w1) : w1.heap[w.heap.size]? = some (nBlk k u d s b a) := by
  rw [h.block _ (by show w.heap.size < (w.heap.push _).size; rw [Array.size_push]; omega)]
  show (w.heap.push _)[w.heap.size]? = _
  simp
theorem below_join {w w1 : World} {o : Obj} (h0 : Hid (Below w.heap.size w (w.alloc o))) (h : Hid (Below (w.alloc o).heap.size (w.alloc o) w1)) : Below w.heap.size w w1 := h0.out.trans (h.out.mono (by show _ ≤ (w.heap.push o).size; rw [Array.size_push]; omega))

set_option maxHeartbeats 1600000 in
set_option maxRecDepth 100000 in
theorem isNode_k29 (u d : Int) (s : ByteArray) (b a : Bool) (hs : (s.size : Int) ≤ 2147483647) (w : World) : Calls Tryz.prog 37 #[nV 29 u d s b a] w (RetBW (isNodeB (rnOf 29 u d s b a)) w) := by
  have HS := Lib.hid hs
  have HB := nBlk_below 29 u d s b a w
  rw [isNode_name (by unfold nameKind; decide)]
  clear hs
  unfold nV
  go_enter Tryz.func37, Tryz.ntmps37
  go_wp2_with (go_at_call 42; go_must (refine (isName_any _ HS.out _).mono ?_; rintro e w' ⟨rfl, rfl⟩))
  go_ret
  exact RetBW.mk' rfl HB.out

set_option maxHeartbeats 1600000 in
set_option maxRecDepth 100000 in
theorem isNode_k28 (u d : Int) (s : ByteArray) (b a : Bool) (hs : (s.size : Int) ≤ 2147483647) (w : World) : Calls Tryz.prog 37 #[nV 28 u d s b a] w (RetBW (isNodeB (rnOf 28 u d s b a)) w) := by
  have HS := Lib.hid hs
  have HB := nBlk_below 28 u d s b a w
  rw [isNode_name (by unfold nameKind; decide)]
  clear hs
  unfold nV
  go_enter Tryz.func37, Tryz.ntmps37
  go_wp2_with (go_at_call 42; go_must (refine (isName_any _ HS.out _).mono ?_; rintro e w' ⟨rfl, rfl⟩))
  go_ret
  exact RetBW.mk' rfl HB.out

set_option maxHeartbeats 1600000 in
set_option maxRecDepth 100000 in
theorem isNode_k1 (u d : Int) (s : ByteArray) (b a : Bool) (hs : (s.size : Int) ≤ 2147483647) (w : World) : Calls Tryz.prog 37 #[nV 1 u d s b a] w (RetBW (isNodeB (rnOf 1 u d s b a)) w) := by
  have HS := Lib.hid hs
  have HB := nBlk_below 1 u d s b a w
  rw [isNode_name (by unfold nameKind; decide)]
  clear hs
  unfold nV
  go_enter Tryz.func37, Tryz.ntmps37
  go_wp2_with (go_at_call 42; go_must (refine (isName_any _ HS.out _).mono ?_; rintro e w' ⟨rfl, rfl⟩))
  go_ret
  exact RetBW.mk' rfl HB.out

set_option maxHeartbeats 1600000 in
set_option maxRecDepth 100000 in
theorem isNode_k27 (u d : Int) (s : ByteArray) (b a : Bool) (hs : (s.size : Int) ≤ 2147483647) (w : World) : Calls Tryz.prog 37 #[nV 27 u d s b a] w (RetBW (isNodeB (rnOf 27 u d s b a)) w) := by
  have HS := Lib.hid hs
  have HB := nBlk_below 27 u d s b a w
  rw [isNode_func]
  clear hs
  cases hn : isNameB s.data.toList
  · have HN := Lib.hid hn
    clear hn
    unfold nV
    go_enter Tryz.func37, Tryz.ntmps37
    go_wp2_with (go_at_call 42; go_must (refine (isName_any _ HS.out _).mono ?_; rintro e w' ⟨rfl, rfl⟩; rw [HN.out]))
    go_ret
    exact RetBW.mk' rfl HB.out
  · have HN := Lib.hid hn
    clear hn
    unfold nV
    go_enter Tryz.func37, Tryz.ntmps37
    go_wp2_with first | (go_at_call 42; go_must (refine (isName_any _ HS.out _).mono ?_; rintro e w' ⟨rfl, rfl⟩; rw [HN.out])) | (go_at_call 48; go_must (refine (isURL_any _ _).mono ?_; rintro e w' ⟨rfl, rfl⟩))
    go_ret
    exact RetBW.mk' (by simp) HB.out
set_option maxHeartbeats 1600000 in
set_option maxRecDepth 100000 in
theorem isNode_k36 (u d : Int) (s : ByteArray) (b a : Bool) (hs : (s.size : Int) ≤ 2147483647) (w : World) : Calls Tryz.prog 37 #[nV 36 u d s b a] w (RetBW (isNodeB (rnOf 36 u d s b a)) w) := by
  have HB := nBlk_below 36 u d s b a w
  rw [isNode_str]
  have HX := Lib.hid (plain_x s)
  have hsz : (((⟨#[120]⟩ : ByteArray) ++ s).size : Int) ≤ 140737488355328 := by
    rw [ByteArray.size_append]; show ((1 + s.size : Nat) : Int) ≤ _; omega
  have HSZ := Lib.hid hsz
  have hsum : 1 + s.size ≤ 2147483648 := by omega
  clear hsz hs
  unfold nV
  go_enter Tryz.func37, Tryz.ntmps37
  go_wp2_with fail
  refine (plain_any _ HSZ.out _).mono ?_
  rintro e w' ⟨rfl, rfl⟩
  rw [HX.out]
  go_wp2_with fail
  go_ret
  exact RetBW.mk' rfl HB.out

set_option maxHeartbeats 1600000 in
set_option maxRecDepth 100000 in
theorem isNode_k30 (u d : Int) (s : ByteArray) (b a : Bool) (hs : (s.size : Int) ≤ 2147483647) (w : World) : Calls Tryz.prog 37 #[nV 30 u d s b a] w (RetBW (isNodeB (rnOf 30 u d s b a)) w) := by
  have HS := Lib.hid hs
  have HB := nBlk_below 30 u d s b a w
  rw [isNode_num (by decide)]
  clear hs
  unfold nV
  go_enter Tryz.func37, Tryz.ntmps37
  go_wp2_with fail
  refine (lone_any s HS.out _ _).mono ?_
  rintro e w1 ⟨rfl, hb⟩
  have HB1 := Lib.hid hb
  clear hb
  go_wp2_with fail
  go_ret
  exact RetBW.mk' rfl (below_join HB HB1)

set_option maxHeartbeats 1600000 in
set_option maxRecDepth 100000 in
theorem isNode_k34 (u d : Int) (s : ByteArray) (b a : Bool) (hs : (s.size : Int) ≤ 2147483647) (w : World) : Calls Tryz.prog 37 #[nV 34 u d s b a] w (RetBW (isNodeB (rnOf 34 u d s b a)) w) := by
  have HS := Lib.hid hs
  have HB := nBlk_below 34 u d s b a w
  rw [isNode_num (by decide)]
  clear hs
  unfold nV
  go_enter Tryz.func37, Tryz.ntmps37
  go_wp2_with fail
  refine (lone_any s HS.out _ _).mono ?_
  rintro e w1 ⟨rfl, hb⟩
  have HB1 := Lib.hid hb
  clear hb
  go_wp2_with fail
  go_ret
  exact RetBW.mk' rfl (below_join HB HB1)

theorem bs_text (s : ByteArray) : (s.data.toList == [92]) = (s.toList == [92]) := by rw [Lib.toList_data]

set_option maxHeartbeats 1600000 in
set_option maxRecDepth 100000 in
theorem isNode_k31 (u d : Int) (s : ByteArray) (b a : Bool) (hs : (s.size : Int) ≤ 2147483647) (w : World) : Calls Tryz.prog 37 #[nV 31 u d s b a] w (RetBW (isNodeB (rnOf 31 u d s b a)) w) := by
  have HS := Lib.hid hs
  have HB := nBlk_below 31 u d s b a w
  rw [isNode_sign (by decide), bs_text]
  clear hs
  cases hq : (s.toList == [92])
  · have hq2 : (!(s.toList == [92])) = true := by rw [hq]; rfl
    unfold nV
    go_enter Tryz.func37, Tryz.ntmps37
    go_wp2_with fail
    refine (lone_any s HS.out _ _).mono ?_
    rintro e w1 ⟨rfl, hb⟩
    have HB1 := Lib.hid hb
    clear hb
    go_wp2_with fail
    go_ret
    exact RetBW.mk' (by simp) (below_join HB HB1)
  · have hq2 : (!(s.toList == [92])) = false := by rw [hq]; rfl
    unfold nV
    go_enter Tryz.func37, Tryz.ntmps37
    go_wp2_with fail
    go_ret
    exact RetBW.mk' rfl HB.out

set_option maxHeartbeats 1600000 in
set_option maxRecDepth 100000 in
theorem isNode_k32 (u d : Int) (s : ByteArray) (b a : Bool) (hs : (s.size : Int) ≤ 2147483647) (w : World) : Calls Tryz.prog 37 #[nV 32 u d s b a] w (RetBW (isNodeB (rnOf 32 u d s b a)) w) := by
  have HS := Lib.hid hs
  have HB := nBlk_below 32 u d s b a w
  rw [isNode_sign (by decide), bs_text]
  clear hs
  cases hq : (s.toList == [92])
  · have hq2 : (!(s.toList == [92])) = true := by rw [hq]; rfl
    unfold nV
    go_enter Tryz.func37, Tryz.ntmps37
    go_wp2_with fail
    refine (lone_any s HS.out _ _).mono ?_
    rintro e w1 ⟨rfl, hb⟩
    have HB1 := Lib.hid hb
    clear hb
    go_wp2_with fail
    go_ret
    exact RetBW.mk' (by simp) (below_join HB HB1)
  · have hq2 : (!(s.toList == [92])) = false := by rw [hq]; rfl
    unfold nV
    go_enter Tryz.func37, Tryz.ntmps37
    go_wp2_with fail
    go_ret
    exact RetBW.mk' rfl HB.out

set_option maxHeartbeats 1600000 in
set_option maxRecDepth 100000 in
theorem isNode_k33 (u d : Int) (s : ByteArray) (b a : Bool) (hs : (s.size : Int) ≤ 2147483647) (w : World) : Calls Tryz.prog 37 #[nV 33 u d s b a] w (RetBW (isNodeB (rnOf 33 u d s b a)) w) := by
  have HS := Lib.hid hs
  have HB := nBlk_below 33 u d s b a w
  rw [isNode_sign (by decide), bs_text]
  clear hs
  cases hq : (s.toList == [92])
  · have hq2 : (!(s.toList == [92])) = true := by rw [hq]; rfl
    unfold nV
    go_enter Tryz.func37, Tryz.ntmps37
    go_wp2_with fail
    refine (lone_any s HS.out _ _).mono ?_
    rintro e w1 ⟨rfl, hb⟩
    have HB1 := Lib.hid hb
    clear hb
    go_wp2_with fail
    go_ret
    exact RetBW.mk' (by simp) (below_join HB HB1)
  · have hq2 : (!(s.toList == [92])) = false := by rw [hq]; rfl
    unfold nV
    go_enter Tryz.func37, Tryz.ntmps37
    go_wp2_with fail
    go_ret
    exact RetBW.mk' rfl HB.out

set_option maxHeartbeats 1600000 in
set_option maxRecDepth 100000 in
theorem isNode_k9 (u d : Int) (s : ByteArray) (b a : Bool) (hs : (s.size : Int) ≤ 2147483647) (w : World) : Calls Tryz.prog 37 #[nV 9 u d s b a] w (RetBW (isNodeB (rnOf 9 u d s b a)) w) := by
  have HS := Lib.hid hs
  have HB := nBlk_below 9 u d s b a w
  rw [isNode_sign (by decide), bs_text]
  clear hs
  cases hq : (s.toList == [92])
  · have hq2 : (!(s.toList == [92])) = true := by rw [hq]; rfl
    unfold nV
    go_enter Tryz.func37, Tryz.ntmps37
    go_wp2_with fail
    refine (lone_any s HS.out _ _).mono ?_
    rintro e w1 ⟨rfl, hb⟩
    have HB1 := Lib.hid hb
    clear hb
    go_wp2_with fail
    go_ret
    exact RetBW.mk' (by simp) (below_join HB HB1)
  · have hq2 : (!(s.toList == [92])) = false := by rw [hq]; rfl
    unfold nV
    go_enter Tryz.func37, Tryz.ntmps37
    go_wp2_with fail
    go_ret
    exact RetBW.mk' rfl HB.out

set_option maxHeartbeats 1600000 in
set_option maxRecDepth 100000 in
theorem isNode_k10 (u d : Int) (s : ByteArray) (b a : Bool) (hs : (s.size : Int) ≤ 2147483647) (w : World) : Calls Tryz.prog 37 #[nV 10 u d s b a] w (RetBW (isNodeB (rnOf 10 u d s b a)) w) := by
  have HS := Lib.hid hs
  have HB := nBlk_below 10 u d s b a w
  rw [isNode_sign (by decide), bs_text]
  clear hs
  cases hq : (s.toList == [92])
  · have hq2 : (!(s.toList == [92])) = true := by rw [hq]; rfl
    unfold nV
    go_enter Tryz.func37, Tryz.ntmps37
    go_wp2_with fail
    refine (lone_any s HS.out _ _).mono ?_
    rintro e w1 ⟨rfl, hb⟩
    have HB1 := Lib.hid hb
    clear hb
    go_wp2_with fail
    go_ret
    exact RetBW.mk' (by simp) (below_join HB HB1)
  · have hq2 : (!(s.toList == [92])) = false := by rw [hq]; rfl
    unfold nV
    go_enter Tryz.func37, Tryz.ntmps37
    go_wp2_with fail
    go_ret
    exact RetBW.mk' rfl HB.out

set_option maxHeartbeats 1600000 in
set_option maxRecDepth 100000 in
theorem isNode_k35 (u d : Int) (s : ByteArray) (b a : Bool) (hs : (s.size : Int) ≤ 2147483647) (w : World) : Calls Tryz.prog 37 #[nV 35 u d s b a] w (RetBW (isNodeB (rnOf 35 u d s b a)) w) := by
  have HS := Lib.hid hs
  have HB := nBlk_below 35 u d s b a w
  rw [isNode_sign (by decide), bs_text]
  clear hs
  cases hq : (s.toList == [92])
  · have hq2 : (!(s.toList == [92])) = true := by rw [hq]; rfl
    unfold nV
    go_enter Tryz.func37, Tryz.ntmps37
    go_wp2_with fail
    refine (lone_any s HS.out _ _).mono ?_
    rintro e w1 ⟨rfl, hb⟩
    have HB1 := Lib.hid hb
    clear hb
    go_wp2_with fail
    go_ret
    exact RetBW.mk' (by simp) (below_join HB HB1)
  · have hq2 : (!(s.toList == [92])) = false := by rw [hq]; rfl
    unfold nV
    go_enter Tryz.func37, Tryz.ntmps37
    go_wp2_with fail
    go_ret
    exact RetBW.mk' rfl HB.out

set_option maxHeartbeats 1600000 in
set_option maxRecDepth 100000 in
theorem isNode_k4 (u d : Int) (s : ByteArray) (b a : Bool) (hs : (s.size : Int) ≤ 2147483647) (w : World) : Calls Tryz.prog 37 #[nV 4 u d s b a] w (RetBW (isNodeB (rnOf 4 u d s b a)) w) := by
  have HS := Lib.hid hs
  have HB := nBlk_below 4 u d s b a w
  rw [isNode_sign (by decide), bs_text]
  clear hs
  cases hq : (s.toList == [92])
  · have hq2 : (!(s.toList == [92])) = true := by rw [hq]; rfl
    unfold nV
    go_enter Tryz.func37, Tryz.ntmps37
    go_wp2_with fail
    refine (lone_any s HS.out _ _).mono ?_
    rintro e w1 ⟨rfl, hb⟩
    have HB1 := Lib.hid hb
    clear hb
    go_wp2_with fail
    go_ret
    exact RetBW.mk' (by simp) (below_join HB HB1)
  · have hq2 : (!(s.toList == [92])) = false := by rw [hq]; rfl
    unfold nV
    go_enter Tryz.func37, Tryz.ntmps37
    go_wp2_with fail
    go_ret
    exact RetBW.mk' rfl HB.out

set_option maxHeartbeats 1600000 in
set_option maxRecDepth 100000 in
theorem isNode_k5 (u d : Int) (s : ByteArray) (b a : Bool) (hs : (s.size : Int) ≤ 2147483647) (w : World) : Calls Tryz.prog 37 #[nV 5 u d s b a] w (RetBW (isNodeB (rnOf 5 u d s b a)) w) := by
  have HS := Lib.hid hs
  have HB := nBlk_below 5 u d s b a w
  rw [isNode_sign (by decide), bs_text]
  clear hs
  cases hq : (s.toList == [92])
  · have hq2 : (!(s.toList == [92])) = true := by rw [hq]; rfl
    unfold nV
    go_enter Tryz.func37, Tryz.ntmps37
    go_wp2_with fail
    refine (lone_any s HS.out _ _).mono ?_
    rintro e w1 ⟨rfl, hb⟩
    have HB1 := Lib.hid hb
    clear hb
    go_wp2_with fail
    go_ret
    exact RetBW.mk' (by simp) (below_join HB HB1)
  · have hq2 : (!(s.toList == [92])) = false := by rw [hq]; rfl
    unfold nV
    go_enter Tryz.func37, Tryz.ntmps37
    go_wp2_with fail
    go_ret
    exact RetBW.mk' rfl HB.out

set_option maxHeartbeats 1600000 in
set_option maxRecDepth 100000 in
theorem isNode_k11 (u d : Int) (s : ByteArray) (b a : Bool) (hs : (s.size : Int) ≤ 2147483647) (w : World) : Calls Tryz.prog 37 #[nV 11 u d s b a] w (RetBW (isNodeB (rnOf 11 u d s b a)) w) := by
  have HS := Lib.hid hs
  have HB := nBlk_below 11 u d s b a w
  rw [isNode_sign (by decide), bs_text]
  clear hs
  cases hq : (s.toList == [92])
  · have hq2 : (!(s.toList == [92])) = true := by rw [hq]; rfl
    unfold nV
    go_enter Tryz.func37, Tryz.ntmps37
    go_wp2_with fail
    refine (lone_any s HS.out _ _).mono ?_
    rintro e w1 ⟨rfl, hb⟩
    have HB1 := Lib.hid hb
    clear hb
    go_wp2_with fail
    go_ret
    exact RetBW.mk' (by simp) (below_join HB HB1)
  · have hq2 : (!(s.toList == [92])) = false := by rw [hq]; rfl
    unfold nV
    go_enter Tryz.func37, Tryz.ntmps37
    go_wp2_with fail
    go_ret
    exact RetBW.mk' rfl HB.out

set_option maxHeartbeats 1600000 in
set_option maxRecDepth 100000 in
theorem isNode_k12 (u d : Int) (s : ByteArray) (b a : Bool) (hs : (s.size : Int) ≤ 2147483647) (w : World) : Calls Tryz.prog 37 #[nV 12 u d s b a] w (RetBW (isNodeB (rnOf 12 u d s b a)) w) := by
  have HS := Lib.hid hs
  have HB := nBlk_below 12 u d s b a w
  rw [isNode_sign (by decide), bs_text]
  clear hs
  cases hq : (s.toList == [92])
  · have hq2 : (!(s.toList == [92])) = true := by rw [hq]; rfl
    unfold nV
    go_enter Tryz.func37, Tryz.ntmps37
    go_wp2_with fail
    refine (lone_any s HS.out _ _).mono ?_
    rintro e w1 ⟨rfl, hb⟩
    have HB1 := Lib.hid hb
    clear hb
    go_wp2_with fail
    go_ret
    exact RetBW.mk' (by simp) (below_join HB HB1)
  · have hq2 : (!(s.toList == [92])) = false := by rw [hq]; rfl
    unfold nV
    go_enter Tryz.func37, Tryz.ntmps37
    go_wp2_with fail
    go_ret
    exact RetBW.mk' rfl HB.out

set_option maxHeartbeats 1600000 in
set_option maxRecDepth 100000 in
theorem isNode_k13 (u d : Int) (s : ByteArray) (b a : Bool) (hs : (s.size : Int) ≤ 2147483647) (w : World) : Calls Tryz.prog 37 #[nV 13 u d s b a] w (RetBW (isNodeB (rnOf 13 u d s b a)) w) := by
  have HS := Lib.hid hs
  have HB := nBlk_below 13 u d s b a w
  rw [isNode_sign (by decide), bs_text]
  clear hs
  cases hq : (s.toList == [92])
  · have hq2 : (!(s.toList == [92])) = true := by rw [hq]; rfl
    unfold nV
    go_enter Tryz.func37, Tryz.ntmps37
    go_wp2_with fail
    refine (lone_any s HS.out _ _).mono ?_
    rintro e w1 ⟨rfl, hb⟩
    have HB1 := Lib.hid hb
    clear hb
    go_wp2_with fail
    go_ret
    exact RetBW.mk' (by simp) (below_join HB HB1)
  · have hq2 : (!(s.toList == [92])) = false := by rw [hq]; rfl
    unfold nV
    go_enter Tryz.func37, Tryz.ntmps37
    go_wp2_with fail
    go_ret
    exact RetBW.mk' rfl HB.out

set_option maxHeartbeats 1600000 in
set_option maxRecDepth 100000 in
theorem isNode_k14 (u d : Int) (s : ByteArray) (b a : Bool) (hs : (s.size : Int) ≤ 2147483647) (w : World) : Calls Tryz.prog 37 #[nV 14 u d s b a] w (RetBW (isNodeB (rnOf 14 u d s b a)) w) := by
  have HS := Lib.hid hs
  have HB := nBlk_below 14 u d s b a w
  rw [isNode_sign (by decide), bs_text]
  clear hs
  cases hq : (s.toList == [92])
  · have hq2 : (!(s.toList == [92])) = true := by rw [hq]; rfl
    unfold nV
    go_enter Tryz.func37, Tryz.ntmps37
    go_wp2_with fail
    refine (lone_any s HS.out _ _).mono ?_
    rintro e w1 ⟨rfl, hb⟩
    have HB1 := Lib.hid hb
    clear hb
    go_wp2_with fail
    go_ret
    exact RetBW.mk' (by simp) (below_join HB HB1)
  · have hq2 : (!(s.toList == [92])) = false := by rw [hq]; rfl
    unfold nV
    go_enter Tryz.func37, Tryz.ntmps37
    go_wp2_with fail
    go_ret
    exact RetBW.mk' rfl HB.out

set_option maxHeartbeats 1600000 in
set_option maxRecDepth 100000 in
theorem isNode_k15 (u d : Int) (s : ByteArray) (b a : Bool) (hs : (s.size : Int) ≤ 2147483647) (w : World) : Calls Tryz.prog 37 #[nV 15 u d s b a] w (RetBW (isNodeB (rnOf 15 u d s b a)) w) := by
  have HS := Lib.hid hs
  have HB := nBlk_below 15 u d s b a w
  rw [isNode_sign (by decide), bs_text]
  clear hs
  cases hq : (s.toList == [92])
  · have hq2 : (!(s.toList == [92])) = true := by rw [hq]; rfl
    unfold nV
    go_enter Tryz.func37, Tryz.ntmps37
    go_wp2_with fail
    refine (lone_any s HS.out _ _).mono ?_
    rintro e w1 ⟨rfl, hb⟩
    have HB1 := Lib.hid hb
    clear hb
    go_wp2_with fail
    go_ret
    exact RetBW.mk' (by simp) (below_join HB HB1)
  · have hq2 : (!(s.toList == [92])) = false := by rw [hq]; rfl
    unfold nV
    go_enter Tryz.func37, Tryz.ntmps37
    go_wp2_with fail
    go_ret
    exact RetBW.mk' rfl HB.out

set_option maxHeartbeats 1600000 in
set_option maxRecDepth 100000 in
theorem isNode_k16 (u d : Int) (s : ByteArray) (b a : Bool) (hs : (s.size : Int) ≤ 2147483647) (w : World) : Calls Tryz.prog 37 #[nV 16 u d s b a] w (RetBW (isNodeB (rnOf 16 u d s b a)) w) := by
  have HS := Lib.hid hs
  have HB := nBlk_below 16 u d s b a w
  rw [isNode_sign (by decide), bs_text]
  clear hs
  cases hq : (s.toList == [92])
  · have hq2 : (!(s.toList == [92])) = true := by rw [hq]; rfl
    unfold nV
    go_enter Tryz.func37, Tryz.ntmps37
    go_wp2_with fail
    refine (lone_any s HS.out _ _).mono ?_
    rintro e w1 ⟨rfl, hb⟩
    have HB1 := Lib.hid hb
    clear hb
    go_wp2_with fail
    go_ret
    exact RetBW.mk' (by simp) (below_join HB HB1)
  · have hq2 : (!(s.toList == [92])) = false := by rw [hq]; rfl
    unfold nV
    go_enter Tryz.func37, Tryz.ntmps37
    go_wp2_with fail
    go_ret
    exact RetBW.mk' rfl HB.out

set_option maxHeartbeats 1600000 in
set_option maxRecDepth 100000 in
theorem isNode_k17 (u d : Int) (s : ByteArray) (b a : Bool) (hs : (s.size : Int) ≤ 2147483647) (w : World) : Calls Tryz.prog 37 #[nV 17 u d s b a] w (RetBW (isNodeB (rnOf 17 u d s b a)) w) := by
  have HS := Lib.hid hs
  have HB := nBlk_below 17 u d s b a w
  rw [isNode_sign (by decide), bs_text]
  clear hs
  cases hq : (s.toList == [92])
  · have hq2 : (!(s.toList == [92])) = true := by rw [hq]; rfl
    unfold nV
    go_enter Tryz.func37, Tryz.ntmps37
    go_wp2_with fail
    refine (lone_any s HS.out _ _).mono ?_
    rintro e w1 ⟨rfl, hb⟩
    have HB1 := Lib.hid hb
    clear hb
    go_wp2_with fail
    go_ret
    exact RetBW.mk' (by simp) (below_join HB HB1)
  · have hq2 : (!(s.toList == [92])) = false := by rw [hq]; rfl
    unfold nV
    go_enter Tryz.func37, Tryz.ntmps37
    go_wp2_with fail
    go_ret
    exact RetBW.mk' rfl HB.out

set_option maxHeartbeats 1600000 in
set_option maxRecDepth 100000 in
theorem isNode_k18 (u d : Int) (s : ByteArray) (b a : Bool) (hs : (s.size : Int) ≤ 2147483647) (w : World) : Calls Tryz.prog 37 #[nV 18 u d s b a] w (RetBW (isNodeB (rnOf 18 u d s b a)) w) := by
  have HS := Lib.hid hs
  have HB := nBlk_below 18 u d s b a w
  rw [isNode_sign (by decide), bs_text]
  clear hs
  cases hq : (s.toList == [92])
  · have hq2 : (!(s.toList == [92])) = true := by rw [hq]; rfl
    unfold nV
    go_enter Tryz.func37, Tryz.ntmps37
    go_wp2_with fail
    refine (lone_any s HS.out _ _).mono ?_
    rintro e w1 ⟨rfl, hb⟩
    have HB1 := Lib.hid hb
    clear hb
    go_wp2_with fail
    go_ret
    exact RetBW.mk' (by simp) (below_join HB HB1)
  · have hq2 : (!(s.toList == [92])) = false := by rw [hq]; rfl
    unfold nV
    go_enter Tryz.func37, Tryz.ntmps37
    go_wp2_with fail
    go_ret
    exact RetBW.mk' rfl HB.out

set_option maxHeartbeats 1600000 in
set_option maxRecDepth 100000 in
theorem isNode_k19 (u d : Int) (s : ByteArray) (b a : Bool) (hs : (s.size : Int) ≤ 2147483647) (w : World) : Calls Tryz.prog 37 #[nV 19 u d s b a] w (RetBW (isNodeB (rnOf 19 u d s b a)) w) := by
  have HS := Lib.hid hs
  have HB := nBlk_below 19 u d s b a w
  rw [isNode_sign (by decide), bs_text]
  clear hs
  cases hq : (s.toList == [92])
  · have hq2 : (!(s.toList == [92])) = true := by rw [hq]; rfl
    unfold nV
    go_enter Tryz.func37, Tryz.ntmps37
    go_wp2_with fail
    refine (lone_any s HS.out _ _).mono ?_
    rintro e w1 ⟨rfl, hb⟩
    have HB1 := Lib.hid hb
    clear hb
    go_wp2_with fail
    go_ret
    exact RetBW.mk' (by simp) (below_join HB HB1)
  · have hq2 : (!(s.toList == [92])) = false := by rw [hq]; rfl
    unfold nV
    go_enter Tryz.func37, Tryz.ntmps37
    go_wp2_with fail
    go_ret
    exact RetBW.mk' rfl HB.out

set_option maxHeartbeats 1600000 in
set_option maxRecDepth 100000 in
theorem isNode_k20 (u d : Int) (s : ByteArray) (b a : Bool) (hs : (s.size : Int) ≤ 2147483647) (w : World) : Calls Tryz.prog 37 #[nV 20 u d s b a] w (RetBW (isNodeB (rnOf 20 u d s b a)) w) := by
  have HS := Lib.hid hs
  have HB := nBlk_below 20 u d s b a w
  rw [isNode_sign (by decide), bs_text]
  clear hs
  cases hq : (s.toList == [92])
  · have hq2 : (!(s.toList == [92])) = true := by rw [hq]; rfl
    unfold nV
    go_enter Tryz.func37, Tryz.ntmps37
    go_wp2_with fail
    refine (lone_any s HS.out _ _).mono ?_
    rintro e w1 ⟨rfl, hb⟩
    have HB1 := Lib.hid hb
    clear hb
    go_wp2_with fail
    go_ret
    exact RetBW.mk' (by simp) (below_join HB HB1)
  · have hq2 : (!(s.toList == [92])) = false := by rw [hq]; rfl
    unfold nV
    go_enter Tryz.func37, Tryz.ntmps37
    go_wp2_with fail
    go_ret
    exact RetBW.mk' rfl HB.out

set_option maxHeartbeats 1600000 in
set_option maxRecDepth 100000 in
theorem isNode_k21 (u d : Int) (s : ByteArray) (b a : Bool) (hs : (s.size : Int) ≤ 2147483647) (w : World) : Calls Tryz.prog 37 #[nV 21 u d s b a] w (RetBW (isNodeB (rnOf 21 u d s b a)) w) := by
  have HS := Lib.hid hs
  have HB := nBlk_below 21 u d s b a w
  rw [isNode_sign (by decide), bs_text]
  clear hs
  cases hq : (s.toList == [92])
  · have hq2 : (!(s.toList == [92])) = true := by rw [hq]; rfl
    unfold nV
    go_enter Tryz.func37, Tryz.ntmps37
    go_wp2_with fail
    refine (lone_any s HS.out _ _).mono ?_
    rintro e w1 ⟨rfl, hb⟩
    have HB1 := Lib.hid hb
    clear hb
    go_wp2_with fail
    go_ret
    exact RetBW.mk' (by simp) (below_join HB HB1)
  · have hq2 : (!(s.toList == [92])) = false := by rw [hq]; rfl
    unfold nV
    go_enter Tryz.func37, Tryz.ntmps37
    go_wp2_with fail
    go_ret
    exact RetBW.mk' rfl HB.out

set_option maxHeartbeats 1600000 in
set_option maxRecDepth 100000 in
theorem isNode_k22 (u d : Int) (s : ByteArray) (b a : Bool) (hs : (s.size : Int) ≤ 2147483647) (w : World) : Calls Tryz.prog 37 #[nV 22 u d s b a] w (RetBW (isNodeB (rnOf 22 u d s b a)) w) := by
  have HS := Lib.hid hs
  have HB := nBlk_below 22 u d s b a w
  rw [isNode_sign (by decide), bs_text]
  clear hs
  cases hq : (s.toList == [92])
  · have hq2 : (!(s.toList == [92])) = true := by rw [hq]; rfl
    unfold nV
    go_enter Tryz.func37, Tryz.ntmps37
    go_wp2_with fail
    refine (lone_any s HS.out _ _).mono ?_
    rintro e w1 ⟨rfl, hb⟩
    have HB1 := Lib.hid hb
    clear hb
    go_wp2_with fail
    go_ret
    exact RetBW.mk' (by simp) (below_join HB HB1)
  · have hq2 : (!(s.toList == [92])) = false := by rw [hq]; rfl
    unfold nV
    go_enter Tryz.func37, Tryz.ntmps37
    go_wp2_with fail
    go_ret
    exact RetBW.mk' rfl HB.out

set_option maxHeartbeats 1600000 in
set_option maxRecDepth 100000 in
theorem isNode_k23 (u d : Int) (s : ByteArray) (b a : Bool) (hs : (s.size : Int) ≤ 2147483647) (w : World) : Calls Tryz.prog 37 #[nV 23 u d s b a] w (RetBW (isNodeB (rnOf 23 u d s b a)) w) := by
  have HS := Lib.hid hs
  have HB := nBlk_below 23 u d s b a w
  rw [isNode_sign (by decide), bs_text]
  clear hs
  cases hq : (s.toList == [92])
  · have hq2 : (!(s.toList == [92])) = true := by rw [hq]; rfl
    unfold nV
    go_enter Tryz.func37, Tryz.ntmps37
    go_wp2_with fail
    refine (lone_any s HS.out _ _).mono ?_
    rintro e w1 ⟨rfl, hb⟩
    have HB1 := Lib.hid hb
    clear hb
    go_wp2_with fail
    go_ret
    exact RetBW.mk' (by simp) (below_join HB HB1)
  · have hq2 : (!(s.toList == [92])) = false := by rw [hq]; rfl
    unfold nV
    go_enter Tryz.func37, Tryz.ntmps37
    go_wp2_with fail
    go_ret
    exact RetBW.mk' rfl HB.out

set_option maxHeartbeats 1600000 in
set_option maxRecDepth 100000 in
theorem isNode_k24 (u d : Int) (s : ByteArray) (b a : Bool) (hs : (s.size : Int) ≤ 2147483647) (w : World) : Calls Tryz.prog 37 #[nV 24 u d s b a] w (RetBW (isNodeB (rnOf 24 u d s b a)) w) := by
  have HS := Lib.hid hs
  have HB := nBlk_below 24 u d s b a w
  rw [isNode_sign (by decide), bs_text]
  clear hs
  cases hq : (s.toList == [92])
  · have hq2 : (!(s.toList == [92])) = true := by rw [hq]; rfl
    unfold nV
    go_enter Tryz.func37, Tryz.ntmps37
    go_wp2_with fail
    refine (lone_any s HS.out _ _).mono ?_
    rintro e w1 ⟨rfl, hb⟩
    have HB1 := Lib.hid hb
    clear hb
    go_wp2_with fail
    go_ret
    exact RetBW.mk' (by simp) (below_join HB HB1)
  · have hq2 : (!(s.toList == [92])) = false := by rw [hq]; rfl
    unfold nV
    go_enter Tryz.func37, Tryz.ntmps37
    go_wp2_with fail
    go_ret
    exact RetBW.mk' rfl HB.out

set_option maxHeartbeats 1600000 in
set_option maxRecDepth 100000 in
theorem isNode_k25 (u d : Int) (s : ByteArray) (b a : Bool) (hs : (s.size : Int) ≤ 2147483647) (w : World) : Calls Tryz.prog 37 #[nV 25 u d s b a] w (RetBW (isNodeB (rnOf 25 u d s b a)) w) := by
  have HS := Lib.hid hs
  have HB := nBlk_below 25 u d s b a w
  rw [isNode_sign (by decide), bs_text]
  clear hs
  cases hq : (s.toList == [92])
  · have hq2 : (!(s.toList == [92])) = true := by rw [hq]; rfl
    unfold nV
    go_enter Tryz.func37, Tryz.ntmps37
    go_wp2_with fail
    refine (lone_any s HS.out _ _).mono ?_
    rintro e w1 ⟨rfl, hb⟩
    have HB1 := Lib.hid hb
    clear hb
    go_wp2_with fail
    go_ret
    exact RetBW.mk' (by simp) (below_join HB HB1)
  · have hq2 : (!(s.toList == [92])) = false := by rw [hq]; rfl
    unfold nV
    go_enter Tryz.func37, Tryz.ntmps37
    go_wp2_with fail
    go_ret
    exact RetBW.mk' rfl HB.out

theorem isNode_none {k u d : Int} {s : ByteArray} {b a : Bool} (h1 : ¬ nameKind k) (h2 : k ≠ 27) (h3 : k ≠ 36) (h4 : k ≠ 30) (h5 : k ≠ 34) (h6 : k ≠ 26) (h7 : ¬ signLike k) : isNodeB (rnOf k u d s b a) = false := by
  unfold isNodeB rnOf
  rw [if_neg h1, if_neg h2, if_neg h3, if_neg (by show ¬ (k = 30 ∨ k = 34); omega), if_neg h6, if_neg h7]

set_option maxHeartbeats 1600000 in
set_option maxRecDepth 100000 in
theorem isNode_other (k u d : Int) (s : ByteArray) (b a : Bool) (w : World) (h1 : ¬ nameKind k) (h2 : k ≠ 27) (h3 : k ≠ 36) (h4 : k ≠ 30) (h5 : k ≠ 34) (h6 : k ≠ 26) (h7 : ¬ signLike k) : Calls Tryz.prog 37 #[nV k u d s b a] w (RetBW (isNodeB (rnOf k u d s b a)) w) := by
  have HB := nBlk_below k u d s b a w
  rw [isNode_none h1 h2 h3 h4 h5 h6 h7]
  unfold nameKind at h1
  unfold signLike at h7

  have e29 : (k == 29) = false := by simp; omega

  have e28 : (k == 28) = false := by simp; omega

  have e1 : (k == 1) = false := by simp; omega

  have e27 : (k == 27) = false := by simp; omega

  have e36 : (k == 36) = false := by simp; omega

  have e30 : (k == 30) = false := by simp; omega

  have e34 : (k == 34) = false := by simp; omega

  have e26 : (k == 26) = false := by simp; omega

  have e31 : (k == 31) = false := by simp; omega

  have e32 : (k == 32) = false := by simp; omega

  have e33 : (k == 33) = false := by simp; omega

  have e9 : (k == 9) = false := by simp; omega

  have e10 : (k == 10) = false := by simp; omega

  have e35 : (k == 35) = false := by simp; omega

  have e4 : (k == 4) = false := by simp; omega

  have e5 : (k == 5) = false := by simp; omega

  have e11 : (k == 11) = false := by simp; omega

  have e12 : (k == 12) = false := by simp; omega

  have e13 : (k == 13) = false := by simp; omega

  have e14 : (k == 14) = false := by simp; omega

  have e15 : (k == 15) = false := by simp; omega

  have e16 : (k == 16) = false := by simp; omega

  have e17 : (k == 17) = false := by simp; omega

  have e18 : (k == 18) = false := by simp; omega

  have e19 : (k == 19) = false := by simp; omega

  have e20 : (k == 20) = false := by simp; omega

  have e21 : (k == 21) = false := by simp; omega

  have e22 : (k == 22) = false := by simp; omega

  have e23 : (k == 23) = false := by simp; omega

  have e24 : (k == 24) = false := by simp; omega

  have e25 : (k == 25) = false := by simp; omega

  clear h1 h2 h3 h4 h5 h6 h7
  unfold nV
  go_enter Tryz.func37, Tryz.ntmps37
  go_wp2
  go_ret
  exact RetBW.mk' rfl HB.out

theorem take_extract (s : ByteArray) (n : Nat) : (s.extract 0 n).data.toList = s.data.toList.take n := by
  rw [ByteArray.data_extract, Array.toList_extract]; simp [List.extract]
theorem drop_extract (s : ByteArray) (n : Nat) : (s.extract n s.size).data.toList = s.data.toList.drop n := by
  rw [ByteArray.data_extract, Array.toList_extract]
  have : s.size = s.data.toList.length := rfl
  simp only [List.extract]
  apply List.take_of_length_le
  rw [List.length_drop]; omega
theorem isNode_dim {u d : Int} {s : ByteArray} {b a : Bool} : isNodeB (rnOf 26 u d s b a) = (decide (0 < u) && decide (u < (s.size : Int)) && decide (u < 60000) && loneB (s.extract 0 u.toNat).data.toList 30 && isNameB (s.extract u.toNat s.size).data.toList) := by
  unfold isNodeB rnOf
  rw [if_neg (by simp [nameKind]), if_neg (by simp), if_neg (by simp), if_neg (by simp), if_pos rfl, take_extract, drop_extract]
  rfl
set_option maxHeartbeats 1600000 in
set_option maxRecDepth 100000 in
theorem isNode_k26 (u d : Int) (s : ByteArray) (b a : Bool) (hs : (s.size : Int) ≤ 2147483647) (w : World) : Calls Tryz.prog 37 #[nV 26 u d s b a] w (RetBW (isNodeB (rnOf 26 u d s b a)) w) := by
  have HS := Lib.hid hs
  have HB := nBlk_below 26 u d s b a w
  rw [isNode_dim]
  by_cases h0 : 0 < u
  · by_cases h1 : u < (s.size : Int)
    · by_cases h2 : u < 60000
      · obtain ⟨n, hn⟩ : ∃ n : Nat, u.toNat = n := ⟨u.toNat, rfl⟩
        have HE1 : Hid (((s.extract 0 n).size : Int) ≤ 2147483647) := by
          show _ ≤ _; rw [ByteArray.size_extract]; omega
        have HE2 : Hid (((s.extract n s.size).size : Int) ≤ 2147483647) := by
          show _ ≤ _; rw [ByteArray.size_extract]; omega
        have e1 : decide (0 < u) = true := by simpa using h0
        have e2 : decide (u < (s.size : Int)) = true := by simpa using h1
        have e3 : decide (u < 60000) = true := by simpa using h2
        rw [e1, e2, e3, hn]
        have h3 : u ≤ 59999 := by omega
        have h4 : 0 ≤ u := by omega
        have h5 : u ≤ (s.size : Int) := by omega
        clear e1 e2 e3 hs h2
        have hn1 : n ≤ s.size := by omega
        generalize hL : loneB (s.extract 0 n).data.toList 30 = L
        generalize hN : isNameB (s.extract n s.size).data.toList = N
        have HL := Lib.hid hL
        have HN := Lib.hid hN
        clear hL hN
        unfold nV
        go_enter Tryz.func37, Tryz.ntmps37
        go_wp2_with fail
        refine (lone_any _ HE1.out _ _).mono ?_
        rintro e w1 ⟨rfl, hb⟩
        rw [HL.out]
        have HB1 := Lib.hid hb
        cases L
        · clear hb
          go_wp2_with fail
          go_ret
          exact RetBW.mk' rfl (below_join HB HB1)
        · have hc : w1.cell? ⟨w.heap.size, 3, none⟩ = some (.string s) := cell_blk (node_kept hb) 3
          have hc2 : w1.cell? ⟨w.heap.size, 1, none⟩ = some (.int .i64 u) := cell_blk (node_kept hb) 1
          clear hb
          go_wp2_with fail
          refine (isName_any _ HE2.out _).mono ?_
          rintro e w' ⟨rfl, rfl⟩
          rw [HN.out]
          go_wp2_with fail
          go_ret
          exact RetBW.mk' (by simp) (below_join HB HB1)
      · have e1 : decide (0 < u) = true := by simpa using h0
        have e2 : decide (u < (s.size : Int)) = true := by simpa using h1
        have e3 : decide (u < 60000) = false := by simpa using h2
        rw [e1, e2, e3]
        clear e1 e2 e3 hs
        unfold nV
        go_enter Tryz.func37, Tryz.ntmps37
        go_wp2_with fail
        go_ret
        exact RetBW.mk' rfl HB.out
    · have e1 : decide (0 < u) = true := by simpa using h0
      have e2 : decide (u < (s.size : Int)) = false := by simpa using h1
      rw [e1, e2]
      clear e1 e2 hs
      unfold nV
      go_enter Tryz.func37, Tryz.ntmps37
      go_wp2_with fail
      go_ret
      exact RetBW.mk' rfl HB.out
  · have e1 : decide (0 < u) = false := by simpa using h0
    rw [e1]
    clear e1 hs
    unfold nV
    go_enter Tryz.func37, Tryz.ntmps37
    go_wp2_with fail
    go_ret
    exact RetBW.mk' rfl HB.out

theorem isNode_any (k u d : Int) (s : ByteArray) (b a : Bool) (hs : (s.size : Int) ≤ 2147483647) (w : World) : Calls Tryz.prog 37 #[nV k u d s b a] w (RetBW (isNodeB (rnOf k u d s b a)) w) := by

  by_cases e29 : k = 29
  · subst e29; exact isNode_k29 u d s b a hs w

  by_cases e28 : k = 28
  · subst e28; exact isNode_k28 u d s b a hs w

  by_cases e1 : k = 1
  · subst e1; exact isNode_k1 u d s b a hs w

  by_cases e27 : k = 27
  · subst e27; exact isNode_k27 u d s b a hs w

  by_cases e36 : k = 36
  · subst e36; exact isNode_k36 u d s b a hs w

  by_cases e30 : k = 30
  · subst e30; exact isNode_k30 u d s b a hs w

  by_cases e34 : k = 34
  · subst e34; exact isNode_k34 u d s b a hs w

  by_cases e26 : k = 26
  · subst e26; exact isNode_k26 u d s b a hs w

  by_cases e31 : k = 31
  · subst e31; exact isNode_k31 u d s b a hs w

  by_cases e32 : k = 32
  · subst e32; exact isNode_k32 u d s b a hs w

  by_cases e33 : k = 33
  · subst e33; exact isNode_k33 u d s b a hs w

  by_cases e9 : k = 9
  · subst e9; exact isNode_k9 u d s b a hs w

  by_cases e10 : k = 10
  · subst e10; exact isNode_k10 u d s b a hs w

  by_cases e35 : k = 35
  · subst e35; exact isNode_k35 u d s b a hs w

  by_cases e4 : k = 4
  · subst e4; exact isNode_k4 u d s b a hs w

  by_cases e5 : k = 5
  · subst e5; exact isNode_k5 u d s b a hs w

  by_cases e11 : k = 11
  · subst e11; exact isNode_k11 u d s b a hs w

  by_cases e12 : k = 12
  · subst e12; exact isNode_k12 u d s b a hs w

  by_cases e13 : k = 13
  · subst e13; exact isNode_k13 u d s b a hs w

  by_cases e14 : k = 14
  · subst e14; exact isNode_k14 u d s b a hs w

  by_cases e15 : k = 15
  · subst e15; exact isNode_k15 u d s b a hs w

  by_cases e16 : k = 16
  · subst e16; exact isNode_k16 u d s b a hs w

  by_cases e17 : k = 17
  · subst e17; exact isNode_k17 u d s b a hs w

  by_cases e18 : k = 18
  · subst e18; exact isNode_k18 u d s b a hs w

  by_cases e19 : k = 19
  · subst e19; exact isNode_k19 u d s b a hs w

  by_cases e20 : k = 20
  · subst e20; exact isNode_k20 u d s b a hs w

  by_cases e21 : k = 21
  · subst e21; exact isNode_k21 u d s b a hs w

  by_cases e22 : k = 22
  · subst e22; exact isNode_k22 u d s b a hs w

  by_cases e23 : k = 23
  · subst e23; exact isNode_k23 u d s b a hs w

  by_cases e24 : k = 24
  · subst e24; exact isNode_k24 u d s b a hs w

  by_cases e25 : k = 25
  · subst e25; exact isNode_k25 u d s b a hs w

  exact isNode_other k u d s b a w (by unfold nameKind; omega) e27 e36 e30 e34 e26 (by unfold signLike; omega)

end Go.Proofs.YtkfdcbdlcipmfaaGreatFmt
/- Walks: the reference: whether nodes are a tree. -/
set_option linter.unusedVariables false
set_option linter.unusedSimpArgs false
namespace Go.Proofs.YtkfdcbdlcipmfaaGreatFmt
open Go.RowKit Css
theorem isNode_rn (n : RN) (hs : n.text.length ≤ 2147483647) (w : World) : Calls Tryz.prog 37 #[rV n] w (RetBW (isNodeB n) w) := by
  have := isNode_any n.kind n.unit n.depth ⟨⟨n.text⟩⟩ n.before n.after (by show (n.text.length : Int) ≤ _; omega) w
  exact this
set_option maxHeartbeats 3200000 in
set_option maxRecDepth 100000 in
theorem isTree_any (v : Value) (l : List RN) (hl : l.length ≤ 1000) (ht : ∀ n ∈ l, n.text.length ≤ 2147483647) (w : World) (h : NodesAt v l w) : Calls Tryz.prog 25 #[v] w (RetBW (treeGo 0 l) w) := by
  obtain ⟨A, c, rfl⟩ := h.slice
  have HN := Lib.hid h
  have HM := Lib.hid ht
  rename World => w0
  clear h ht
  go_enter Tryz.func25, Tryz.ntmps25
  go_wp2_with fail
  go_loopg [3, 10] l.length (fun k p3 p10 wr => ∃ (i : Nat) (m : Int), p10 = .int .i64 i ∧ i + k = l.length ∧ p3 = .int .i64 m ∧ 0 ≤ m ∧ m ≤ (i : Int) ∧ Hid (Below w0.heap.size w0 wr) ∧ Hid (treeGo 0 l = treeGo m (l.drop i)))
  case atStart => exact ⟨0, 0, rfl, by omega, rfl, by omega, by omega, Below.refl _ _, rfl⟩
  case round =>
    obtain ⟨i, m, rfl, hik, rfl, hm0, hmi, HB, HQ⟩ := hrel
    have hi0 : (0 : Int) ≤ (i : Int) := by omega
    have hi1 : (i : Int) ≤ 1000 := by omega
    by_cases hlt : i < l.length
    · have hlti : (i : Int) < (l.length : Int) := by omega
      obtain ⟨n, hn⟩ : ∃ n, l[i]? = some n := ⟨l[i], List.getElem?_eq_getElem hlt⟩
      have HQ2 : Hid (treeGo 0 l = (!decide (n.depth < 0) && !decide (m < n.depth) && isNodeB n && treeGo (if opens n.kind then n.depth + 1 else n.depth) (l.drop (i + 1)))) := by
        show _ = _; rw [HQ.out]
        have : l.drop i = n :: l.drop (i + 1) := by
          obtain ⟨h1, e⟩ := List.getElem?_eq_some_iff.1 hn
          rw [← e]; exact List.drop_eq_getElem_cons h1
        rw [this]; rfl
      have HMN : Hid (n.text.length ≤ 2147483647) := HM.out n (List.mem_of_getElem? hn)
      obtain ⟨q, rfl, hq, hc⟩ := (HN.out.below HB.out).node hn
      have hc0 := hc.c0
      have hc1 := hc.c1
      have hc2 := hc.c2
      have hc3 := hc.c3
      have hc4 := hc.c4
      have hc5 := hc.c5
      have HB1 := Lib.hid (HB.out.alloc HB.out.size (nBlk n.kind n.unit n.depth ⟨⟨n.text⟩⟩ n.before n.after))
      clear hc hn HQ
      by_cases hd1 : n.depth < 0
      · have HF : Hid (treeGo 0 l = false) := by show _ = _; rw [HQ2.out]; simp [hd1]
        go_wp2_with fail
        go_ret
        exact RetBW.mk' HF.out.symm HB1.out
      · have hd1' : 0 ≤ n.depth := by omega
        by_cases hd2 : m < n.depth
        · have HF : Hid (treeGo 0 l = false) := by show _ = _; rw [HQ2.out]; simp [hd2]
          go_wp2_with fail
          go_ret
          exact RetBW.mk' HF.out.symm HB1.out
        · have hd2' : n.depth ≤ m := by omega
          have hd3 : n.depth ≤ 1000 := by omega
          cases hnb : isNodeB n
          · have HNB := Lib.hid hnb
            have HF : Hid (treeGo 0 l = false) := by show _ = _; rw [HQ2.out, HNB.out]; simp
            clear hnb
            go_wp2_with (go_at_call 37; go_must (refine (isNode_rn n HMN.out _).mono ?_; rintro e w1 ⟨rfl, hb1⟩; have HB2 := Lib.hid hb1; clear hb1; rw [HNB.out]))
            go_ret
            exact RetBW.mk' HF.out.symm (below_box HB.out HB2.out)
          · have HNB := Lib.hid hnb
            clear hnb
            cases ho : openQ n.kind
            · have HO := Lib.hid ho
              have HF : Hid (treeGo 0 l = treeGo n.depth (l.drop (i + 1))) := by
                show _ = _; rw [HQ2.out, HNB.out, if_neg (by simpa [openQ] using HO.out)]; simp [hd1', hd2']
              clear ho HQ2
              go_wp2_with (first | (go_at_call 37; go_must (refine (isNode_rn n HMN.out _).mono ?_; rintro e w1 ⟨rfl, hb1⟩; have HB2 := Lib.hid hb1; have b0 := cell_blk (node_kept hb1) 0; have b2 := cell_blk (node_kept hb1) 2; clear hb1; rw [HNB.out])) | (go_at_call 30; go_must (refine (opens_any _ _).mono ?_; rintro e w' ⟨rfl, rfl⟩; rw [HO.out])))
              go_roundg (l.length - (i + 1))
              case measure => omega
              case rel => exact ⟨i + 1, n.depth, by go_num, by omega, rfl, by omega, by omega, below_box HB.out HB2.out, HF.out⟩
            · have HO := Lib.hid ho
              have HF : Hid (treeGo 0 l = treeGo (n.depth + 1) (l.drop (i + 1))) := by
                show _ = _; rw [HQ2.out, HNB.out, if_pos (by simpa [openQ] using HO.out)]; simp [hd1', hd2']
              clear ho HQ2
              go_wp2_with (first | (go_at_call 37; go_must (refine (isNode_rn n HMN.out _).mono ?_; rintro e w1 ⟨rfl, hb1⟩; have HB2 := Lib.hid hb1; have b0 := cell_blk (node_kept hb1) 0; have b2 := cell_blk (node_kept hb1) 2; clear hb1; rw [HNB.out])) | (go_at_call 30; go_must (refine (opens_any _ _).mono ?_; rintro e w' ⟨rfl, rfl⟩; rw [HO.out])))
              go_roundg (l.length - (i + 1))
              case measure => omega
              case rel => exact ⟨i + 1, n.depth + 1, by go_num, by omega, rfl, by omega, by omega, below_box HB.out HB2.out, HF.out⟩
    · have hle : (l.length : Int) ≤ (i : Int) := by omega
      have HF : Hid (treeGo 0 l = true) := by
        show _ = _; rw [HQ.out, List.drop_eq_nil_of_le (by omega)]; rfl
      go_wp2_with fail
      go_ret
      exact RetBW.mk' HF.out.symm HB.out
end Go.Proofs.YtkfdcbdlcipmfaaGreatFmt
/- Walks: the statements: names; trees. -/
set_option linter.unusedVariables false
set_option linter.unusedSimpArgs false
namespace Go.Proofs.YtkfdcbdlcipmfaaGreatFmt
open Go.RowKit Css
def namedB (s : List UInt8) (ascii : Bool) : Bool := decide (s.length ≤ 1048576) && isNameB s && lowB s ascii
set_option maxHeartbeats 1600000 in
set_option maxRecDepth 100000 in
theorem named2_any (s : ByteArray) (hs : (s.size : Int) ≤ 2147483647) (ascii : Bool) (w : World) : Calls Tryz.prog 12 #[.string s, .bool ascii] w (RetB (namedB s.data.toList ascii) w) := by
  have HS := Lib.hid hs
  have HS2 : Hid ((s.size : Int) ≤ 140737488355328) := by show _ ≤ _; omega
  have hl : s.data.toList.length = s.size := rfl
  have HU : Hid (namedB s.data.toList ascii = (decide (s.size ≤ 1048576) && isNameB s.data.toList && lowB s.data.toList ascii)) := rfl
  have h0 : (0 : Int) ≤ (s.size : Int) := by omega
  by_cases h1 : s.size ≤ 1048576
  · have h1' : (s.size : Int) ≤ 1048576 := by omega
    have HF : Hid (namedB s.data.toList ascii = (isNameB s.data.toList && lowB s.data.toList ascii)) := by show _ = _; rw [HU.out]; simp [h1]
    clear hs hl h1 HU
    cases hn : isNameB s.data.toList
    · have HNB := Lib.hid hn
      clear hn
      go_enter Tryz.func12, Tryz.ntmps12
      go_wp2_with (go_at_call 29; go_must (refine (IsName_any _ HS.out _).mono ?_; rintro e w' ⟨rfl, rfl⟩; rw [HNB.out]))
      go_ret
      exact RetB.mk' (by rw [HF.out, HNB.out]; rfl)
    · have HNB := Lib.hid hn
      clear hn
      go_enter Tryz.func12, Tryz.ntmps12
      go_wp2_with (first | (go_at_call 29; go_must (refine (IsName_any _ HS.out _).mono ?_; rintro e w' ⟨rfl, rfl⟩; rw [HNB.out])) | (go_at_call 26; go_must (refine (low2_any _ HS2.out _ _).mono ?_; rintro e w' ⟨rfl, rfl⟩)))
      go_ret
      exact RetB.mk' (by rw [HF.out, HNB.out]; rfl)
  · have h1' : (1048576 : Int) < (s.size : Int) := by omega
    have HF : Hid (namedB s.data.toList ascii = false) := by show _ = _; rw [HU.out]; simp [h1]
    clear hs hl h1 HU
    go_enter Tryz.func12, Tryz.ntmps12
    go_wp2_with fail
    go_ret
    exact RetB.mk' HF.out.symm
/-- What is returned: the tree, with whitespace laid, or nothing. -/
def RetTree (all ascii : Bool) (l : List RN) (w : World) (e : Ending) (w' : World) : Prop :=
  Below w.heap.size w w' ∧ ((treeOk ascii l = true ∧ ∃ v, e = .returned (.tuple #[v, .bool true]) ∧ w'.ownsRow w.heap.size 45 6 v l.length (nRow (setR all l))) ∨ (treeOk ascii l = false ∧ e = .returned (.tuple #[.slice none 0 0, .bool false])))
set_option maxHeartbeats 3200000 in
set_option maxRecDepth 100000 in
theorem tree_with (all ascii : Bool) (v : Value) (l : List RN) (hl : l.length ≤ 2147483647) (ht : ∀ n ∈ l, n.text.length ≤ 2147483647) (hset : l.length ≤ 1000 → ∀ v w, NodesAt v l w → Calls Tryz.prog 28 #[v, .bool all] w (RetN 50 (setR all l) w)) (w : World) (h : NodesAt v l w) :
    Calls Tryz.prog 11 #[v, .bool all, .bool ascii] w (RetTree all ascii l w) := by
  obtain ⟨A, c, rfl⟩ := h.slice
  have HN := Lib.hid h
  have HM := Lib.hid ht
  have HL := Lib.hid hl
  have HSET := Lib.hid hset
  have h2 : (l.length : Int) ≤ 2147483647 := by omega
  rename World => w0
  clear h ht hset
  by_cases hl1 : l.length ≤ 1000
  · have HL1 := Lib.hid hl1
    have h1 : (l.length : Int) ≤ 1000 := by omega
    have HT : Hid (treeOk ascii l = (treeGo 0 l && sizeGo ascii 0 l)) := by show _ = _; unfold treeOk; simp [hl1]
    clear hl1
    cases htg : treeGo 0 l
    · have HTG := Lib.hid htg
      clear htg
      go_enter Tryz.func11, Tryz.ntmps11
      go_wp2_with (first
        | (go_at_call 16; go_must (refine (nodes_any _ l HL.out _ HN.out).mono ?_; rintro e w1 ⟨v1, rfl, ho1, hb1⟩; obtain ⟨A1, c1, rfl⟩ := own_slice ho1; have HN1 := Lib.hid (own_nodes ho1); have HB1 := Lib.hid hb1; clear ho1 hb1))
        | (go_at_call 25; go_must (refine (isTree_any _ l HL1.out HM.out _ HN1.out).mono ?_; rintro e w2 ⟨rfl, hb2⟩; have HB2 := Lib.hid hb2; clear hb2; rw [HTG.out])))
      go_ret2
      exact ⟨below_then HB1.out HB2.out, .inr ⟨by rw [HT.out, HTG.out]; rfl, rfl⟩⟩
    · have HTG := Lib.hid htg
      clear htg
      have HT2 : Hid (treeOk ascii l = sizeGo ascii 0 l) := by show _ = _; rw [HT.out, HTG.out]; rfl
      go_enter Tryz.func11, Tryz.ntmps11
      go_wp2_with (first
        | (go_at_call 16; go_must (refine (nodes_any _ l HL.out _ HN.out).mono ?_; rintro e w1 ⟨v1, rfl, ho1, hb1⟩; obtain ⟨A1, c1, rfl⟩ := own_slice ho1; have HN1 := Lib.hid (own_nodes ho1); have HB1 := Lib.hid hb1; clear ho1 hb1))
        | (go_at_call 25; go_must (refine (isTree_any _ l HL1.out HM.out _ HN1.out).mono ?_; rintro e w2 ⟨rfl, hb2⟩; have HB2 := Lib.hid hb2; have HN2 := Lib.hid (HN1.out.below hb2); clear hb2; rw [HTG.out])))
      have HB02 := Lib.hid (below_then HB1.out HB2.out)
      clear HB1 HB2 HN1
      go_loopg [9, 24] l.length (fun k p9 p24 wr => ∃ (i s : Nat), p24 = .int .i64 i ∧ i + k = l.length ∧ p9 = .int .i64 s ∧ s ≤ 1048576 ∧ Hid (Below w2.heap.size w2 wr) ∧ Hid (sizeGo ascii 0 l = sizeGo ascii s (l.drop i)))
      case atStart => exact ⟨0, 0, rfl, by omega, rfl, by omega, Below.refl _ _, rfl⟩
      case round =>
        obtain ⟨i, s, rfl, hik, rfl, hs, HB, HQ⟩ := hrel
        have hi0 : (0 : Int) ≤ (i : Int) := by omega
        have hi1 : (i : Int) ≤ 1000 := by omega
        have hs0 : (0 : Int) ≤ (s : Int) := by omega
        have hs1 : (s : Int) ≤ 1048576 := by omega
        by_cases hlt : i < l.length
        · have hlti : (i : Int) < (l.length : Int) := by omega
          obtain ⟨n, hn⟩ : ∃ n, l[i]? = some n := ⟨l[i], List.getElem?_eq_getElem hlt⟩
          have HQ2 : Hid (sizeGo ascii 0 l = (!decide (64 < n.depth) && !decide (1048576 < s + n.text.length) && lowB n.text ascii && sizeGo ascii (s + n.text.length) (l.drop (i + 1)))) := by
            show _ = _; rw [HQ.out]
            have : l.drop i = n :: l.drop (i + 1) := by
              obtain ⟨h1, e⟩ := List.getElem?_eq_some_iff.1 hn
              rw [← e]; exact List.drop_eq_getElem_cons h1
            rw [this]; rfl
          have hmn : n.text.length ≤ 2147483647 := HM.out n (List.mem_of_getElem? hn)
          obtain ⟨q, rfl, hq, hc⟩ := (HN2.out.below HB.out).node hn
          have hc0 := hc.c0
          have hc1 := hc.c1
          have hc2 := hc.c2
          have hc3 := hc.c3
          have hc4 := hc.c4
          have hc5 := hc.c5
          have HB1 := Lib.hid (HB.out.alloc HB.out.size (.cells #[.int .i64 n.kind, .int .i64 n.unit, .int .i64 n.depth, .string ⟨⟨n.text⟩⟩, .bool n.before, .bool n.after] 50))
          have hsz := ba_size n.text
          have ht0 : (0 : Int) ≤ (n.text.length : Int) := by omega
          have ht1 : (n.text.length : Int) ≤ 2147483647 := by omega
          have HLOW : Hid (((⟨⟨n.text⟩⟩ : ByteArray).size : Int) ≤ 140737488355328) := by show ((n.text.length : Nat) : Int) ≤ _; omega
          clear hc hn HQ
          by_cases hd : 64 < n.depth
          · have HF : Hid (treeOk ascii l = false) := by show _ = _; rw [HT2.out, HQ2.out]; simp [hd]
            go_wp2_with fail
            go_ret2
            exact ⟨below_then HB02.out HB1.out, .inr ⟨HF.out, rfl⟩⟩
          · have hd' : n.depth ≤ 64 := by omega
            by_cases hz : 1048576 < s + n.text.length
            · have hz' : (1048576 : Int) < (s : Int) + (n.text.length : Int) := by omega
              have HF : Hid (treeOk ascii l = false) := by show _ = _; rw [HT2.out, HQ2.out]; simp [hz]
              go_wp2_with fail
              go_ret2
              exact ⟨below_then HB02.out HB1.out, .inr ⟨HF.out, rfl⟩⟩
            · have hz' : (s : Int) + (n.text.length : Int) ≤ 1048576 := by omega
              cases hlo : lowB n.text ascii
              · have HLO := Lib.hid hlo
                have HF : Hid (treeOk ascii l = false) := by show _ = _; rw [HT2.out, HQ2.out, HLO.out]; simp
                clear hlo
                go_wp2_with (go_at_call 26; go_must (refine (low2_any _ HLOW.out _ _).mono ?_; rintro e w' ⟨rfl, rfl⟩; rw [show lowB (⟨⟨n.text⟩⟩ : ByteArray).data.toList ascii = false from HLO.out]))
                go_ret2
                exact ⟨below_then HB02.out HB1.out, .inr ⟨HF.out, rfl⟩⟩
              · have HLO := Lib.hid hlo
                have HF : Hid (sizeGo ascii 0 l = sizeGo ascii (s + n.text.length) (l.drop (i + 1))) := by show _ = _; rw [HQ2.out, HLO.out]; simp [hd', hz]
                clear hlo
                go_wp2_with (go_at_call 26; go_must (refine (low2_any _ HLOW.out _ _).mono ?_; rintro e w' ⟨rfl, rfl⟩; rw [show lowB (⟨⟨n.text⟩⟩ : ByteArray).data.toList ascii = true from HLO.out]))
                go_roundg (l.length - (i + 1))
                case measure => omega
                case rel => exact ⟨i + 1, s + n.text.length, by go_num, by omega, by go_num, by omega, HB1.out, HF.out⟩
        · have hle : (l.length : Int) ≤ (i : Int) := by omega
          have HF : Hid (treeOk ascii l = true) := by
            show _ = _; rw [HT2.out, HQ.out, List.drop_eq_nil_of_le (by omega)]; rfl
          go_wp2_with (first
            | (go_at_call 28; go_must (refine (HSET.out HL1.out _ _ (HN2.out.below HB.out)).mono ?_; rintro e w3 ⟨v3, rfl, ho3, hb3⟩; have HN3 := Lib.hid (own_nodes ho3); have HB3 := Lib.hid hb3; clear ho3 hb3))
            | (go_at_call 27; go_must (refine (back_any _ (setR all l) (by rw [setR_len]; exact HL.out) _ HN3.out).mono ?_; rintro e w4 ⟨v4, rfl, ho4, hb4⟩; have HO4 := Lib.hid ho4; have HB4 := Lib.hid hb4; clear ho4 hb4)))
          go_ret2
          have ho := HO4.out
          rw [setR_len] at ho
          have hb3 := below_then HB02.out (below_then HB.out HB3.out)
          exact ⟨below_then hb3 HB4.out, .inl ⟨HF.out, _, rfl, own_base hb3.size ho⟩⟩
  · have h1 : (1000 : Int) < (l.length : Int) := by omega
    have HF : Hid (treeOk ascii l = false) := by show _ = _; unfold treeOk; simp [hl1]
    go_enter Tryz.func11, Tryz.ntmps11
    go_wp2_with (go_at_call 16; go_must (refine (nodes_any _ l HL.out _ HN.out).mono ?_; rintro e w1 ⟨v1, rfl, ho1, hb1⟩; have HB1 := Lib.hid hb1; clear ho1 hb1))
    go_ret2
    exact ⟨HB1.out, .inr ⟨HF.out, rfl⟩⟩
end Go.Proofs.YtkfdcbdlcipmfaaGreatFmt
/- Walks: the statements: sizes. -/
set_option linter.unusedVariables false
set_option linter.unusedSimpArgs false
namespace Go.Proofs.YtkfdcbdlcipmfaaGreatFmt
open Go.RowKit Css
def fitB (n : RN) : Bool := decide (n.text.length ≤ 2147483647)
set_option maxRecDepth 100000 in
theorem fits2_any (n : RN) (hn : n.text.length ≤ maxLen) (w : World) : Calls Tryz.prog 24 #[rV n] w (RetBW (fitB n) w) := by
  have HB := Lib.hid (box_below (.cells #[.int .i64 n.kind, .int .i64 n.unit, .int .i64 n.depth, .string ⟨⟨n.text⟩⟩, .bool n.before, .bool n.after] 45) w)
  have hsz := ba_size n.text
  have hm : (n.text.length : Int) ≤ 9223372036854775807 := by unfold maxLen at hn; omega
  by_cases h : n.text.length ≤ 2147483647
  · have HF : Hid (fitB n = true) := by show _ = _; simp [fitB, h]
    have h1 : (n.text.length : Int) ≤ 2147483647 := by omega
    go_enter Tryz.func24, Tryz.ntmps24
    go_wp2_with fail
    go_ret
    exact RetBW.mk' HF.out.symm HB.out
  · have HF : Hid (fitB n = false) := by show _ = _; simp [fitB, h]
    have h1 : (2147483647 : Int) < (n.text.length : Int) := by omega
    go_enter Tryz.func24, Tryz.ntmps24
    go_wp2_with fail
    go_ret
    exact RetBW.mk' HF.out.symm HB.out
def fitsB (l : List RN) : Bool := decide (l.length ≤ 2147483647) && l.all fitB
theorem drop_cons {α : Type} {l : List α} {i : Nat} {n : α} (h : l[i]? = some n) : l.drop i = n :: l.drop (i + 1) := by
  obtain ⟨hlt, e⟩ := List.getElem?_eq_some_iff.1 h
  rw [← e]; exact List.drop_eq_getElem_cons hlt
set_option maxHeartbeats 1600000 in
set_option maxRecDepth 100000 in
theorem fits1_any (v : Value) (l : List RN) (hm : ∀ n ∈ l, n.text.length ≤ maxLen) (hml : l.length ≤ maxLen) (w : World) (h : NodesAt v l w) : Calls Tryz.prog 10 #[v] w (RetBW (fitsB l) w) := by
  obtain ⟨A, c, rfl⟩ := h.slice
  have HM := Lib.hid hm
  have HN := Lib.hid h
  have hb0 : (l.length : Int) ≤ 9223372036854775807 := by unfold maxLen at hml; omega
  rename World => w0
  clear hm h hml
  by_cases hl : l.length ≤ 2147483647
  · have HF : Hid (fitsB l = l.all fitB) := by show _ = _; simp [fitsB, hl]
    have h1 : (l.length : Int) ≤ 2147483647 := by omega
    go_enter Tryz.func10, Tryz.ntmps10
    go_wp2_with fail
    go_loopg [10] l.length (fun k p10 wr => ∃ i : Nat, p10 = .int .i64 i ∧ i + k = l.length ∧ Hid (Below w0.heap.size w0 wr) ∧ Hid (l.all fitB = (l.drop i).all fitB))
    case atStart => exact ⟨0, rfl, by omega, Below.refl _ _, rfl⟩
    case round =>
      obtain ⟨i, rfl, hik, HB, HQ⟩ := hrel
      have hi0 : (0 : Int) ≤ (i : Int) := by omega
      have hi1 : (i : Int) ≤ 2147483647 := by omega
      by_cases hlt : i < l.length
      · have hlti : (i : Int) < (l.length : Int) := by omega
        obtain ⟨n, hn⟩ : ∃ n, l[i]? = some n := ⟨l[i], List.getElem?_eq_getElem hlt⟩
        have HQ2 : Hid (l.all fitB = (fitB n && (l.drop (i + 1)).all fitB)) := by
          show _ = _; rw [HQ.out, drop_cons hn]; rfl
        have HMN : Hid (n.text.length ≤ maxLen) := HM.out n (List.mem_of_getElem? hn)
        obtain ⟨q, rfl, hq, hc⟩ := (HN.out.below HB.out).node hn
        have hc0 := hc.c0
        have hc1 := hc.c1
        have hc2 := hc.c2
        have hc3 := hc.c3
        have hc4 := hc.c4
        have hc5 := hc.c5
        clear hc hn HQ
        cases hf : fitB n
        · have HF2 : Hid (fitB n = false) := hf
          go_wp2_with (go_at_call 24; go_must (refine (fits2_any n HMN.out _).mono ?_; rintro e w1 ⟨rfl, hb1⟩; have HB1 := Lib.hid hb1; clear hb1; rw [HF2.out]))
          go_ret
          exact RetBW.mk' (by rw [HF.out, HQ2.out, HF2.out]; rfl) (below_box HB.out HB1.out)
        · have HF2 : Hid (fitB n = true) := hf
          go_wp2_with (go_at_call 24; go_must (refine (fits2_any n HMN.out _).mono ?_; rintro e w1 ⟨rfl, hb1⟩; have HB1 := Lib.hid hb1; clear hb1; rw [HF2.out]))
          go_roundg (l.length - (i + 1))
          case measure => omega
          case rel => exact ⟨i + 1, by go_num, by omega, below_box HB.out HB1.out, by show _ = _; rw [HQ2.out, HF2.out]; rfl⟩
      · have hle : (l.length : Int) ≤ (i : Int) := by omega
        have HF2 : Hid (l.all fitB = true) := by
          show _ = _; rw [HQ.out, List.drop_eq_nil_of_le (by omega)]; rfl
        go_wp2_with fail
        go_ret
        exact RetBW.mk' (by rw [HF.out, HF2.out]) HB.out
  · have HF : Hid (fitsB l = false) := by show _ = _; simp [fitsB, hl]
    have h1 : (2147483647 : Int) < (l.length : Int) := by omega
    go_enter Tryz.func10, Tryz.ntmps10
    go_wp2_with fail
    go_ret
    exact RetBW.mk' HF.out.symm (Below.refl _ _)
end Go.Proofs.YtkfdcbdlcipmfaaGreatFmt
