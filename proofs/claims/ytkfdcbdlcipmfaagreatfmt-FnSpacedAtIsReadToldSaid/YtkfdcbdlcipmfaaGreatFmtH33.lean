/- Walks: the reference: plain texts, names. -/
import Derived.Test.YtkfdcbdlcipmfaaGreatFmtH32
import Derived.Test.YtkfdcbdlcipmfaaGreatFmtH07
set_option linter.unusedVariables false
set_option linter.unusedSimpArgs false
namespace Go.Proofs.YtkfdcbdlcipmfaaGreatFmt
open Go.RowKit Css
theorem runeS {s : ByteArray} {ds : List Int} (h : Suf s ds) (hs : (s.size : Int) ≤ 140737488355328) (w : World) (n : Nat) (hn : n = (runeQ s (pos s ds)).2) : Calls Tryz.prog 52 #[.string s, .int .i64 (pos s ds : Nat)] w fun e w' => e = .returned (.tuple #[.int .i64 (pk ds 0), .int .i64 (n : Nat)]) ∧ w = w' := by
  subst hn
  refine (rune_any s (pos s ds) hs w).mono ?_
  rintro e w' ⟨he, hw⟩
  exact ⟨by rw [he, (rune_suf h).1], hw⟩
def plainGo (first : Bool) (D : List Int) : Bool := D.all okC && !(first && pk D 0 == 65279)
theorem pos_pos {s : ByteArray} {ds : List Int} (h : Suf s ds) : (pos s ds : Int) < (s.size : Int) ↔ ds ≠ [] := by
  have hb := h.bw_le
  unfold pos
  cases ds with
  | nil => simp [bw]
  | cons c t =>
    have := (wd_pos c).1
    simp only [bw] at hb ⊢
    constructor
    · intro _; simp
    · intro _; omega
set_option maxHeartbeats 800000 in
set_option maxRecDepth 100000 in
theorem plain_any (s : ByteArray) (hs : (s.size : Int) ≤ 140737488355328) (w : World) : Calls Tryz.prog 43 #[.string s] w (RetB (isPlainB s.data.toList) w) := by
  have HS := Lib.hid hs
  have HP : Hid (isPlainB s.data.toList = plainGo (((pos s (dec s.data.toList) : Nat) : Int) == 0) (dec s.data.toList)) := by
    show _ = _
    unfold isPlainB plainGo okDec
    rw [pos_all]; simp
  have HSA := Lib.hid (suf_all s)
  have hp0 := pos_all s
  generalize dec s.data.toList = ds at HP HSA hp0
  have HP0 := Lib.hid hp0
  clear hs hp0
  rename World => w0
  go_enter Tryz.func43, Tryz.ntmps43
  go_wp2_with fail
  go_loopg [3] ds.length (fun k p3 wr => ∃ D : List Int, p3 = .int .i64 (pos s D : Nat) ∧ D.length = k ∧ wr = w0 ∧ Hid (Suf s D) ∧ Hid (isPlainB s.data.toList = plainGo ((pos s D : Int) == 0) D))
  case atStart => exact ⟨ds, by rw [HP0.out]; rfl, rfl, rfl, HSA.out, HP.out⟩
  case round =>
    obtain ⟨D, rfl, hD, rfl, HSF, HB⟩ := hrel
    clear HP HSA HP0
    have hps : (pos s D : Int) ≤ 140737488355328 := by have := @pos_le s D; have := HS.out; omega
    by_cases hD0 : D = []
    · have hle : (s.size : Int) ≤ (pos s D : Int) := Int.not_lt.1 (fun h => (pos_pos HSF.out).1 h hD0)
      have HF : Hid (isPlainB s.data.toList = true) := by show _ = _; rw [HB.out, hD0]; simp [plainGo]
      clear hD0
      go_wp2_with fail
      go_ret
      exact RetB.mk' (by rw [HF.out])
    · have hlt := (pos_pos HSF.out).2 hD0
      obtain ⟨n, hn⟩ : ∃ n : Nat, n = (runeQ s (pos s D)).2 := ⟨_, rfl⟩
      have HN := Lib.hid hn
      have HPT : Hid ((pos s D.tail : Nat) = pos s D + n) := by show _ = _; rw [hn]; exact (rune_suf HSF.out).2.symm
      have hnb : (n : Int) ≤ 140737488355328 := by have := HPT.out; have := @pos_le s D.tail; have := HS.out; omega
      have HCT : Hid (∃ t, D = pk D 0 :: t ∧ D.tail = t) := by
        cases D with
        | nil => exact absurd rfl hD0
        | cons c t => exact ⟨t, by simp, rfl⟩
      have HLT : Hid (D.tail.length < D.length) := by
        obtain ⟨t, h1, h2⟩ := HCT.out
        show _ < _
        rw [h2]; rw [h1]; simp
      have HPN : Hid (¬ (pos s D.tail : Int) = 0) := by
        have h1 := HPT.out
        have h2 := HSF.out.bw_le
        obtain ⟨t, h3, h4⟩ := HCT.out
        have h5 := (wd_pos (pk D 0)).1
        have h6 : bw D = wd (pk D 0) + bw t := by rw [h3]; simp [bw]
        show ¬ _
        unfold pos at *
        rw [h4] at h1 ⊢
        omega
      clear hn hD0
      have hway : ((pk D 0 == -2) = true ∧ Hid (isPlainB s.data.toList = false)) ∨ ((pk D 0 == -2) = false ∧ (pk D 0 == 0) = true ∧ Hid (isPlainB s.data.toList = false)) ∨ ((pk D 0 == -2) = false ∧ (pk D 0 == 0) = false ∧ ((pos s D : Int) == 0) = true ∧ (pk D 0 == 65279) = true ∧ Hid (isPlainB s.data.toList = false)) ∨
          ((pk D 0 == -2) = false ∧ (pk D 0 == 0) = false ∧ ((pos s D : Int) == 0) = true ∧ (pk D 0 == 65279) = false ∧ Hid (isPlainB s.data.toList = plainGo ((pos s D.tail : Int) == 0) D.tail)) ∨ ((pk D 0 == -2) = false ∧ (pk D 0 == 0) = false ∧ ((pos s D : Int) == 0) = false ∧ Hid (isPlainB s.data.toList = plainGo ((pos s D.tail : Int) == 0) D.tail)) := by
        have hid : ∀ p : Prop, Hid p = p := fun _ => rfl
        simp only [hid]
        rw [HB.out]
        obtain ⟨t, h1, h2⟩ := HCT.out
        have h3 : ((pos s D.tail : Int) == 0) = false := by simpa using HPN.out
        rw [h3, h2]
        have e : ∀ f, plainGo f D = ((okC (pk D 0) && t.all okC) && !(f && pk D 0 == 65279)) := by
          intro f
          unfold plainGo
          conv => lhs; rw [h1]
          simp
        have e2 : plainGo false t = t.all okC := by simp [plainGo]
        rw [e, e2]
        generalize t.all okC = X
        unfold okC
        generalize (pk D 0) = c
        cases (c == -2) <;> cases (c == 0) <;> cases ((pos s D : Int) == 0) <;> cases (c == 65279) <;> cases X <;> simp
      rcases hway with ⟨q1, HF⟩ | ⟨q1, q2, HF⟩ | ⟨q1, q2, q3, q4, HF⟩ | ⟨q1, q2, q3, q4, HF⟩ | ⟨q1, q2, q3, HF⟩
      iterate 3
        · go_wp2_with (go_at_call 52; go_must (refine (runeS HSF.out HS.out _ n HN.out).mono ?_; rintro e w' ⟨rfl, rfl⟩))
          go_ret
          exact RetB.mk' (by rw [HF.out])
      all_goals
        go_wp2_with (go_at_call 52; go_must (refine (runeS HSF.out HS.out _ n HN.out).mono ?_; rintro e w' ⟨rfl, rfl⟩))
        go_roundg D.tail.length
        case measure => have := HLT.out; omega
        case rel => exact ⟨D.tail, by rw [HPT.out]; go_num, rfl, rfl, HSF.out.tail, HF.out⟩
def lowQ (l : List UInt8) : Bool := l.all fun b => decide (b.toNat < 244)
set_option maxHeartbeats 800000 in
set_option maxRecDepth 100000 in
theorem low_any (s : ByteArray) (hs : (s.size : Int) ≤ 140737488355328) (w : World) : Calls Tryz.prog 38 #[.string s] w (RetB (lowQ s.data.toList) w) := by
  have HS := Lib.hid hs
  rename World => w0
  go_enter Tryz.func38, Tryz.ntmps38
  go_wp2_with fail
  go_loopg [6] s.size (fun k p6 wr => ∃ i : Nat, p6 = .int .i64 i ∧ i + k = s.size ∧ wr = w0 ∧ Hid (lowQ s.data.toList = lowQ (s.data.toList.drop i)))
  case atStart => exact ⟨0, rfl, by omega, rfl, rfl⟩
  case round =>
    obtain ⟨i, rfl, hik, rfl, HB⟩ := hrel
    have hi0 : (0 : Int) ≤ (i : Int) := by omega
    have hi1 : (i : Int) ≤ 140737488355328 := by omega
    by_cases hlt : i < s.size
    · have hlti : (i : Int) < (s.size : Int) := by omega
      have hx := bt_get s i
      have hr := bt_range s i
      obtain ⟨x, hx1, hx2⟩ := drop_bt s i hlt
      have HX : Hid (lowQ s.data.toList = (decide (bt s i < 244) && lowQ (s.data.toList.drop (i + 1)))) := by
        show _ = _
        rw [HB.out, hx2]
        unfold lowQ
        rw [List.all_cons]
        congr 1
        rw [Bool.eq_iff_iff]; simp; omega
      clear hx1 hx2 HB
      generalize bt s i = xi at hx hr HX
      by_cases hq : xi < 244
      · have HF : Hid (lowQ s.data.toList = lowQ (s.data.toList.drop (i + 1))) := by
          show _ = _; rw [HX.out]; simp [hq]
        go_wp2_with fail
        go_roundg (s.size - (i + 1))
        case measure => omega
        case rel => exact ⟨i + 1, by go_num, by omega, rfl, HF.out⟩
      · have HF : Hid (lowQ s.data.toList = false) := by
          show _ = _; rw [HX.out]; simp [hq]
        go_wp2_with fail
        go_ret
        exact RetB.mk' (by rw [HF.out])
    · have hle : (s.size : Int) ≤ (i : Int) := by omega
      have HF : Hid (lowQ s.data.toList = true) := by
        show _ = _; rw [HB.out, List.drop_eq_nil_of_le (show s.size ≤ i by omega)]; rfl
      go_wp2_with fail
      go_ret
      exact RetB.mk' (by rw [HF.out])
end Go.Proofs.YtkfdcbdlcipmfaaGreatFmt
namespace Go.Proofs.YtkfdcbdlcipmfaaGreatFmt
open Go.RowKit Css
def RetK (c : Int) (b : Bool) (w : World) (e : Ending) (w' : World) : Prop := e = .returned (.tuple #[.int .i64 c, .bool b]) ∧ w = w'
def openQ (k : Int) : Bool := decide (opens k)
def closeQ (k : Int) : Int := if opens k then closeKind k else 0
set_option maxHeartbeats 800000 in
set_option maxRecDepth 100000 in
theorem opens_any (k : Int) (w : World) : Calls Tryz.prog 30 #[.int .i64 k] w (RetK (closeQ k) (openQ k) w) := by
  have hq : ((k == 27) = true ∧ Hid (closeQ k = 8 ∧ openQ k = true)) ∨ ((k == 27) = false ∧ (k == 33) = true ∧ Hid (closeQ k = 8 ∧ openQ k = true)) ∨ ((k == 27) = false ∧ (k == 33) = false ∧ (k == 32) = true ∧ Hid (closeQ k = 7 ∧ openQ k = true)) ∨ ((k == 27) = false ∧ (k == 33) = false ∧ (k == 32) = false ∧ (k == 31) = true ∧ Hid (closeQ k = 6 ∧ openQ k = true)) ∨ ((k == 27) = false ∧ (k == 33) = false ∧ (k == 32) = false ∧ (k == 31) = false ∧ Hid (closeQ k = 0 ∧ openQ k = false)) := by
    have hid : ∀ p : Prop, Hid p = p := fun _ => rfl
    simp only [beq_iff_eq, beq_eq_false_iff_ne, hid]
    by_cases c1 : k = 27
    · left; subst c1; exact ⟨rfl, by decide, by decide⟩
    by_cases c2 : k = 33
    · right; left; subst c2; exact ⟨by decide, rfl, by decide, by decide⟩
    by_cases c3 : k = 32
    · right; right; left; subst c3; exact ⟨by decide, by decide, rfl, by decide, by decide⟩
    by_cases c4 : k = 31
    · right; right; right; left; subst c4; exact ⟨by decide, by decide, by decide, rfl, by decide, by decide⟩
    · right; right; right; right
      have : ¬ opens k := by unfold opens; omega
      exact ⟨c1, c2, c3, c4, by unfold closeQ; rw [if_neg this], by unfold openQ; simp [this]⟩
  rcases hq with ⟨q1, HF⟩ | ⟨q1, q2, HF⟩ | ⟨q1, q2, q3, HF⟩ | ⟨q1, q2, q3, q4, HF⟩ | ⟨q1, q2, q3, q4, HF⟩
  all_goals
    go_enter Tryz.func30, Tryz.ntmps30
    go_wp2
    go_ret2
    exact ⟨by rw [HF.out.1, HF.out.2]; rfl, rfl⟩
end Go.Proofs.YtkfdcbdlcipmfaaGreatFmt
namespace Go.Proofs.YtkfdcbdlcipmfaaGreatFmt
open Go.RowKit Css
theorem dec_x (l : List UInt8) : dec (120 :: l) = 120 :: dec l := by
  rw [dec]
  have h : runeL (120 :: l) = (120, 1) := by rw [runeL_cons]; rfl
  rw [h]; rfl
theorem plain_x (s : ByteArray) : isPlainB ((⟨#[120]⟩ : ByteArray) ++ s).data.toList = okDec s.data.toList := by
  have e : ((⟨#[120]⟩ : ByteArray) ++ s).data.toList = 120 :: s.data.toList := by simp
  rw [e]
  unfold isPlainB okDec
  rw [dec_x]
  simp [okC]
theorem empty_of {s : ByteArray} (h : s.size = 0) : s = ⟨#[]⟩ := by
  obtain ⟨a⟩ := s
  have : a.size = 0 := h
  rw [Array.size_eq_zero_iff] at this
  rw [this]
set_option maxHeartbeats 800000 in
set_option maxRecDepth 100000 in
theorem isName_any (s : ByteArray) (hs : (s.size : Int) ≤ 2147483647) (w : World) : Calls Tryz.prog 42 #[.string s] w (RetB (isNameB s.data.toList) w) := by
  by_cases h0 : s.size = 0
  · have := empty_of h0
    subst this
    clear h0
    go_enter Tryz.func42, Tryz.ntmps42
    go_wp2
    go_ret
    exact RetB.mk' rfl
  · have HF : Hid (isNameB s.data.toList = okDec s.data.toList) := by
      show _ = _; unfold isNameB
      have : s.data.toList.isEmpty = false := by
        cases hl : s.data.toList with
        | nil => have : s.data.toList.length = s.size := rfl; rw [hl] at this; simp at this; omega
        | cons a t => rfl
      rw [this]; rfl
    have HX := Lib.hid (plain_x s)
    have hse : s.toList.isEmpty = false ∧ (!s.toList.isEmpty) = true := by
      have := toList_ne s (by omega)
      simp [this]
    obtain ⟨hse1, hse2⟩ := hse
    have hsz : (((⟨#[120]⟩ : ByteArray) ++ s).size : Int) ≤ 140737488355328 := by
      rw [ByteArray.size_append]; show ((1 + s.size : Nat) : Int) ≤ _; omega
    have HSZ := Lib.hid hsz
    have hsum : 1 + s.size ≤ 2147483648 := by omega
    clear h0 hsz
    go_enter Tryz.func42, Tryz.ntmps42
    go_wp2_with fail
    refine (plain_any _ HSZ.out _).mono ?_
    rintro e w' ⟨rfl, rfl⟩
    rw [HX.out]
    cases h : okDec s.data.toList
    all_goals
      have H := Lib.hid h
      clear h
      go_wp2_with fail
      go_ret
      exact RetB.mk' (by rw [HF.out, H.out])
set_option maxRecDepth 100000 in
theorem IsName_any (s : ByteArray) (hs : (s.size : Int) ≤ 2147483647) (w : World) : Calls Tryz.prog 29 #[.string s] w (RetB (isNameB s.data.toList) w) := by
  go_enter Tryz.func29, Tryz.ntmps29
  go_wp2_with (go_at_call 42; go_must (refine (isName_any s hs _).mono ?_; rintro e w' ⟨rfl, rfl⟩))
  go_ret
  exact RetB.mk' rfl
set_option maxHeartbeats 800000 in
set_option maxRecDepth 100000 in
theorem decoded_any (s : ByteArray) (hs : (s.size : Int) ≤ 140737488355328) (w : World) : Calls Tryz.prog 35 #[.string s] w (RetS (enc (name (dec s.data.toList)).1) w) := by
  have HX0 : Hid (LX w.heap.size s (dec s.data.toList) (.slice none 0 0) false (w.alloc (.cells #[.string s, .int .i64 0, .slice none 0 0, .bool false] 146))) := by
    refine ⟨⟨146, ?_⟩, suf_all s, hs⟩
    rw [pos_all]
    exact heap_alloc_new w _
  go_enter Tryz.func35, Tryz.ntmps35
  go_wp2_with fail
  refine (name_any HX0.out).mono ?_
  rintro e w1 ⟨rfl, hto⟩
  have HT := Lib.hid hto
  clear hto
  go_wp2_with fail
  go_ret
  exact ⟨rfl, HT.out.lk.below (Nat.le_refl _) ((Below.refl _ _).alloc (Nat.le_refl _) _) (by simp)⟩
end Go.Proofs.YtkfdcbdlcipmfaaGreatFmt
namespace Go.Proofs.YtkfdcbdlcipmfaaGreatFmt
open Go.RowKit Css
def lowB0 (s : List UInt8) (ascii : Bool) : Bool := !ascii || lowQ s
theorem lowB0_eq (s : List UInt8) (ascii : Bool) : lowB0 s ascii = lowB s ascii := by
  unfold lowB0 lowB lowQ
  rfl
set_option maxRecDepth 100000 in
theorem low2_any (s : ByteArray) (hs : (s.size : Int) ≤ 140737488355328) (ascii : Bool) (w : World) : Calls Tryz.prog 26 #[.string s, .bool ascii] w (RetB (lowB s.data.toList ascii) w) := by
  have HS := Lib.hid hs
  have HF := Lib.hid (lowB0_eq s.data.toList ascii)
  clear hs
  cases ascii
  · go_enter Tryz.func26, Tryz.ntmps26
    go_wp2_with fail
    go_ret
    exact RetB.mk' (by rw [← HF.out]; rfl)
  · go_enter Tryz.func26, Tryz.ntmps26
    go_wp2_with (go_at_call 38; go_must (refine (low_any _ HS.out _).mono ?_; rintro e w' ⟨rfl, rfl⟩))
    go_ret
    exact RetB.mk' (by rw [← HF.out]; rfl)
end Go.Proofs.YtkfdcbdlcipmfaaGreatFmt
namespace Go.Proofs.YtkfdcbdlcipmfaaGreatFmt
open Go.RowKit Css
def setPre (all : Bool) (l : List RN) (i : Nat) : List RN := (setR all l).take i ++ l.drop i
theorem setPre_len (all : Bool) (l : List RN) (i : Nat) : (setPre all l i).length = l.length := by
  unfold setPre; rw [List.length_append, List.length_take, List.length_drop, setR_len]; omega
theorem setPre_all (all : Bool) (l : List RN) : setPre all l l.length = setR all l := by
  unfold setPre; rw [List.drop_length, List.append_nil, ← setR_len all l, List.take_length]
theorem setPre_at (all : Bool) (l : List RN) (i j : Nat) (h : i ≤ j) (hl : i ≤ l.length) : (setPre all l i)[j]? = l[j]? := by
  unfold setPre
  have : ((setR all l).take i).length = i := by rw [List.length_take, setR_len]; omega
  rw [List.getElem?_append_right (by omega), this, List.getElem?_drop]
  congr 1; omega
theorem setR_get (all : Bool) : ∀ (l : List RN) (i : Nat) (n : RN), l[i]? = some n → (setR all l)[i]? = some { n with after := n.after || all || needs n.cp ((l.drop (i + 1)).map RN.cp) }
  | [], i, n, h => by simp at h
  | a :: r, 0, n, h => by simp at h; subst h; rfl
  | a :: r, i + 1, n, h => by simpa [setR] using setR_get all r i n (by simpa using h)
theorem setPre_succ (all : Bool) (l : List RN) (i : Nat) (n : RN) (h : l[i]? = some n) : setPre all l (i + 1) = (setPre all l i).set i { n with after := n.after || all || needs n.cp ((l.drop (i + 1)).map RN.cp) } := by
  unfold setPre
  have hlt : i < l.length := (List.getElem?_eq_some_iff.1 h).1
  have hl : ((setR all l).take i).length = i := by rw [List.length_take, setR_len]; omega
  rw [List.set_append_right _ _ (by omega), hl, Nat.sub_self, drop_cons2 h, List.set_cons_zero, List.take_add_one, setR_get all l i n h]
  simp
 where
  drop_cons2 {l : List RN} {i : Nat} {n : RN} (h : l[i]? = some n) : l.drop i = n :: l.drop (i + 1) := by
    obtain ⟨hlt, e⟩ := List.getElem?_eq_some_iff.1 h
    rw [← e]; exact List.drop_eq_getElem_cons hlt
theorem row_store {w : World} {B : Nat} {A : Option Addr} {c : Nat} {l : List RN} {i : Nat} {n : RN} {x : Bool} {q : Nat} (h : w.ownsRow B 50 6 (.slice A l.length c) l.length (nRow l)) (hA : A = some ⟨q, 0, none⟩) (hn : l[i]? = some n) :
    (w.setCell ⟨q, i * 6 + 5, none⟩ (.bool x)).ownsRow B 50 6 (.slice A l.length c) l.length (nRow (l.set i { n with after := x })) ∧ Below B w (w.setCell ⟨q, i * 6 + 5, none⟩ (.bool x)) := by
  subst hA
  have h1 := h.stored (i * 6 + 5) (.bool x)
  rw [nRow_set l i n x hn] at h1
  exact ⟨h1.1, (Below.refl _ _).grown h1.2 (Nat.le_of_lt (Nat.lt_of_le_of_lt (own_lt h rfl).2.1 (own_lt h rfl).1)) fun k hk => by injection hk with hk; subst hk; exact (own_lt h rfl).2.1⟩
set_option maxHeartbeats 1600000 in
set_option maxRecDepth 100000 in
theorem set_all (v : Value) (l : List RN) (hl : l.length ≤ 1000) (w : World) (h : NodesAt v l w) : Calls Tryz.prog 28 #[v, .bool true] w (RetN 50 (setR true l) w) := by
  obtain ⟨A, c, rfl⟩ := h.slice
  have HA : Hid (A = none → l.length = 0 ∧ c = 0) := fun hA => h.none_len hA
  have HC : Hid (∀ ad, A = some ad → ∀ j u, (nRow l)[j]? = some u → w.cell? (ad.add j) = some u) := by
    intro ad hA; subst hA; exact h.cellsOf
  have HL := Lib.hid hl
  rename World => w0
  clear h
  go_enter Tryz.func28, Tryz.ntmps28
  go_wp2_with (at_builtin; go_must (refine wpList_appN rfl _ _ 31 50 rfl Tryz.underlying31 info50 rfl (by decide) (World.ownsRow_nil w0 w0.heap.size 50 6) (Nat.le_refl _) A l.length c (nRow l) (nRow_len l) HA.out HC.out (nRow_one l) (by have := HL.out; omega) (by have := HL.out; unfold maxLen; omega) rfl rfl ?_; intro v1 w1 hw1 _ hb1; rw [Nat.zero_add, List.nil_append] at hw1; obtain ⟨A1, c1, rfl⟩ := own_slice hw1; have HW1 := Lib.hid hw1; have HB1 := Lib.hid hb1; clear hw1 hb1))
  go_loopg [6, 7, 12] l.length (fun k p6 p7 p12 wr => ∃ i : Nat, p12 = .int .i64 i ∧ i + k = l.length ∧ Hid (Below w0.heap.size w0 wr) ∧ Hid (wr.ownsRow w0.heap.size 50 6 (.slice A1 l.length c1) l.length (nRow (setPre true l i))))
  case atStart => exact ⟨0, rfl, by omega, HB1.out, HW1.out⟩
  case round =>
    obtain ⟨i, rfl, hik, HB, HO⟩ := hrel
    have hi0 : (0 : Int) ≤ (i : Int) := by omega
    have hi1 : (i : Int) ≤ 1000 := by omega
    by_cases hlt : i < l.length
    · have hlti : (i : Int) < (l.length : Int) := by omega
      obtain ⟨n, hn⟩ : ∃ n, l[i]? = some n := ⟨l[i], List.getElem?_eq_getElem hlt⟩
      have HS : Hid (setPre true l (i + 1) = (setPre true l i).set i { n with after := true }) := by
        show _ = _; rw [setPre_succ true l i n hn]; simp
      have hn2 : (setPre true l i)[i]? = some n := by rw [setPre_at true l i i (Nat.le_refl _) (by omega)]; exact hn
      have hlp := setPre_len true l i
      have hown : wr.ownsRow w0.heap.size 50 6 (.slice A1 (setPre true l i).length c1) (setPre true l i).length (nRow (setPre true l i)) := by rw [hlp]; exact HO.out
      obtain ⟨q, hA1, hq, hc⟩ := (own_nodes hown).node hn2
      have HST := Lib.hid (row_store (x := true) hown hA1 hn2)
      have hc5 := hc.c5
      have hf5 : wr.frozen? ⟨q, i * 6 + 5, none⟩ = false := by subst hA1; exact hown.frozenAt _
      subst hA1
      clear hc hn hn2 hown HO
      go_wp2_with fail
      go_roundg (l.length - (i + 1))
      case measure => omega
      case rel => exact ⟨i + 1, by go_num, by omega, HB.out.trans HST.out.2, by have := HST.out.1; rw [hlp] at this; show World.ownsRow _ _ _ _ _ _ _; rw [HS.out]; exact this⟩
    · have hle : (l.length : Int) ≤ (i : Int) := by omega
      have hil : i = l.length := by omega
      go_wp2_with fail
      go_ret
      subst hil
      have := HO.out
      rw [setPre_all] at this
      exact ⟨_, rfl, by rw [setR_len]; exact this, HB.out⟩
end Go.Proofs.YtkfdcbdlcipmfaaGreatFmt
namespace Go.Proofs.YtkfdcbdlcipmfaaGreatFmt
open Go.RowKit Css
def clsI (k : Int) : Int := (cls k : Nat)
set_option maxHeartbeats 1600000 in
set_option maxRecDepth 100000 in
theorem class_any (k : Int) (w : World) : Calls Tryz.prog 50 #[.int .i64 k] w (RetI (clsI k) w) := by
  have hid : ∀ p : Prop, Hid p = p := fun _ => rfl
  by_cases c1 : k = 29
  · subst c1
    go_enter Tryz.func50, Tryz.ntmps50
    go_wp2
    go_ret
    exact RetI.mk' (by decide)
  by_cases c2 : k = 1
  · subst c2
    go_enter Tryz.func50, Tryz.ntmps50
    go_wp2
    go_ret
    exact RetI.mk' (by decide)
  by_cases c3 : k = 28
  · subst c3
    go_enter Tryz.func50, Tryz.ntmps50
    go_wp2
    go_ret
    exact RetI.mk' (by decide)
  by_cases c4 : k = 26
  · subst c4
    go_enter Tryz.func50, Tryz.ntmps50
    go_wp2
    go_ret
    exact RetI.mk' (by decide)
  by_cases c5 : k = 27
  · subst c5
    go_enter Tryz.func50, Tryz.ntmps50
    go_wp2
    go_ret
    exact RetI.mk' (by decide)
  by_cases c6 : k = 30
  · subst c6
    go_enter Tryz.func50, Tryz.ntmps50
    go_wp2
    go_ret
    exact RetI.mk' (by decide)
  by_cases c7 : k = 34
  · subst c7
    go_enter Tryz.func50, Tryz.ntmps50
    go_wp2
    go_ret
    exact RetI.mk' (by decide)
  have HF : Hid (clsI k = 0) := by
    show _ = _
    unfold clsI cls
    rw [if_neg (by omega), if_neg (by omega)]; rfl
  have k1 : (k == 29) = false := by simpa using c1
  have k2 : (k == 1) = false := by simpa using c2
  have k3 : (k == 28) = false := by simpa using c3
  have k4 : (k == 26) = false := by simpa using c4
  have k5 : (k == 27) = false := by simpa using c5
  have k6 : (k == 30) = false := by simpa using c6
  have k7 : (k == 34) = false := by simpa using c7
  clear c1 c2 c3 c4 c5 c6 c7 hid
  go_enter Tryz.func50, Tryz.ntmps50
  go_wp2
  go_ret
  exact RetI.mk' HF.out.symm
def sgI (k : Int) (s : ByteArray) : Int := if clsI k = 0 ∧ k ≠ 36 ∧ s.size = 1 then bt s 0 else 0
def itV (k u : Int) (s : ByteArray) (sp : Int) : Value := .agg #[.int .i64 k, .int .i64 u, .string s, .int .i64 sp]
def RetU (i : Int) (w : World) (e : Ending) (w' : World) : Prop := e = .returned (.int .u8 i) ∧ Below w.heap.size w w'
theorem ret_u8 {a b : Int} (h : a = b) : Ending.returned (.int .u8 a) = .returned (.int .u8 b) := by rw [h]
set_option maxHeartbeats 1600000 in
set_option maxRecDepth 100000 in
theorem signs_any (k u : Int) (s : ByteArray) (sp : Int) (w : World) : Calls Tryz.prog 51 #[.agg #[.int .i64 k, .int .i64 u, .string s, .int .i64 sp]] w (RetU (sgI k s) w) := by
  have HBW : Hid (Below w.heap.size w (w.alloc (.cells #[.int .i64 k, .int .i64 u, .string s, .int .i64 sp] 34))) := (Below.refl _ _).alloc (Nat.le_refl _) _
  by_cases c1 : clsI k = 0
  · have HC := Lib.hid c1
    by_cases c2 : k = 36
    · have HF : Hid (sgI k s = 0) := by show _ = _; unfold sgI; rw [if_neg (fun h => h.2.1 c2)]
      have k2 : (k == 36) = true ∧ (k != 36) = false := by subst c2; exact ⟨rfl, rfl⟩
      obtain ⟨k2, k3⟩ := k2
      clear c1 c2
      go_enter Tryz.func51, Tryz.ntmps51
      go_wp2_with (go_at_call 50; go_must (refine (class_any _ _).mono ?_; rintro e w' ⟨rfl, rfl⟩; rw [HC.out]))
      go_ret
      exact ⟨ret_u8 HF.out.symm, HBW.out⟩
    · have k2 : (k == 36) = false ∧ (k != 36) = true := by simp [c2]
      obtain ⟨k2, k3⟩ := k2
      by_cases c3 : s.size = 1
      · have HF : Hid (sgI k s = bt s 0) := by show _ = _; unfold sgI; rw [if_pos ⟨c1, c2, c3⟩]
        have hs : ((s.size : Int) == 1) = true := by simp; omega
        have hs0 : (0 : Int) < (s.size : Int) := by omega
        have hx := bt_get s 0
        have hr := bt_range s 0
        generalize bt s 0 = x at hx hr HF
        clear c1 c2 c3
        go_enter Tryz.func51, Tryz.ntmps51
        go_wp2_with (go_at_call 50; go_must (refine (class_any _ _).mono ?_; rintro e w' ⟨rfl, rfl⟩; rw [HC.out]))
        go_ret
        exact ⟨ret_u8 HF.out.symm, HBW.out⟩
      · have HF : Hid (sgI k s = 0) := by show _ = _; unfold sgI; rw [if_neg (fun h => c3 h.2.2)]
        have hs : ((s.size : Int) == 1) = false := by simp; omega
        clear c1 c2 c3
        go_enter Tryz.func51, Tryz.ntmps51
        go_wp2_with (go_at_call 50; go_must (refine (class_any _ _).mono ?_; rintro e w' ⟨rfl, rfl⟩; rw [HC.out]))
        go_ret
        exact ⟨ret_u8 HF.out.symm, HBW.out⟩
  · have HF : Hid (sgI k s = 0) := by show _ = _; unfold sgI; rw [if_neg (fun h => c1 h.1)]
    have k1 : (clsI k == 0) = false := by simpa using c1
    clear c1
    go_enter Tryz.func51, Tryz.ntmps51
    go_wp2_with (go_at_call 50; go_must (refine (class_any _ _).mono ?_; rintro e w' ⟨rfl, rfl⟩))
    go_ret
    exact ⟨ret_u8 HF.out.symm, HBW.out⟩
end Go.Proofs.YtkfdcbdlcipmfaaGreatFmt
namespace Go.Proofs.YtkfdcbdlcipmfaaGreatFmt
open Go.RowKit Css
theorem tkRow_none {s : ByteArray} {xs : List Value} (h : TkRow s [] xs) : xs = [] := by
  generalize e : ([] : List (Tk × List Int × List Int)) = l at h
  cases h with
  | nil => rfl
  | snoc l' xs' y id h' => simp at e
theorem tkRow_one {s : ByteArray} {x : Tk × List Int × List Int} {xs : List Value} (h : TkRow s [x] xs) : ∃ id, xs = tkCells s x id := by
  generalize e : [x] = l at h
  cases h with
  | nil => cases e
  | snoc l' xs' y id h' =>
    cases l' with
    | nil =>
      simp only [List.nil_append, List.cons.injEq, and_true] at e
      subst e
      have := tkRow_none h'
      subst this
      exact ⟨id, rfl⟩
    | cons a t => simp at e
def oneKind (l : List (Tk × List Int × List Int)) (k : Int) : Bool := match l with | [x] => x.1.kind == k | _ => false
theorem loneB_eq (l : List UInt8) (k : Int) : loneB l k = (isPlainB l && !(tokens (dec l)).2.2 && ((tokens (dec l)).2.1 == 0) && oneKind (tokens (dec l)).1 k) := rfl
set_option maxHeartbeats 3200000 in
set_option maxRecDepth 100000 in
theorem lone_any (s : ByteArray) (hs : (s.size : Int) ≤ 2147483647) (k : Int) (w : World) : Calls Tryz.prog 49 #[.string s, .int .i64 k] w (RetBW (loneB s.data.toList k) w) := by
  have HS := Lib.hid hs
  have HL := Lib.hid (loneB_eq s.data.toList k)
  have HPL : Hid ((s.size : Int) ≤ 140737488355328) := by show _ ≤ _; omega
  clear hs
  go_enter Tryz.func49, Tryz.ntmps49
  go_wp2_with fail
  refine (tokens_any s HS.out _).mono ?_
  rintro e w1 ⟨out, A, c, xs, rfl, hown, hrow, hb⟩
  generalize (tokens (dec s.data.toList)).1 = tl at hown hrow HL
  generalize (tokens (dec s.data.toList)).2.1 = nc at HL ⊢
  generalize (tokens (dec s.data.toList)).2.2 = op at HL ⊢
  have HB := Lib.hid hb
  obtain ⟨Ao, co, hout⟩ := own_slice hown
  subst hout
  have hn0 : (0 : Int) ≤ (nc : Int) := by omega
  have hl0 : (0 : Int) ≤ (tl.length : Int) := by omega
  clear hb
  cases hp : isPlainB s.data.toList
  · have HP := Lib.hid hp
    clear hp hown hrow
    go_wp2_with (go_at_call 43; go_must (refine (plain_any _ HPL.out _).mono ?_; rintro e w' ⟨rfl, rfl⟩; rw [HP.out]))
    go_ret
    exact RetBW.mk' (by rw [HL.out, HP.out]; rfl) HB.out
  · have HP := Lib.hid hp
    cases op
    · cases hnc : ((nc : Int) == 0)
      · clear hp hown hrow
        have HNC : Hid ((nc == 0) = false) := by show _ = _; simpa using hnc
        go_wp2_with (go_at_call 43; go_must (refine (plain_any _ HPL.out _).mono ?_; rintro e w' ⟨rfl, rfl⟩; rw [HP.out]))
        go_ret
        exact RetBW.mk' (by rw [HL.out, HP.out, HNC.out]; rfl) HB.out
      · have HNC : Hid ((nc == 0) = true) := by show _ = _; simpa using hnc
        by_cases hl1 : tl.length = 1
        · obtain ⟨x, hx⟩ : ∃ x, tl = [x] := by
            cases tl with
            | nil => simp at hl1
            | cons a t =>
              cases t with
              | nil => exact ⟨a, rfl⟩
              | cons b t => simp at hl1
          subst hx
          obtain ⟨id, hxs⟩ := tkRow_one hrow
          obtain ⟨q, cap, hv, _, hlt⟩ := hown.form (by simp)
          have hcell := hown.cells (g := q) (by rw [hv]; rfl) 0 (.int .i64 x.1.kind) (by rw [hxs]; rfl)
          have hA : Ao = some ⟨q, 0, none⟩ := by injection hv
          subst hA
          have hc0 : w1.cell? ⟨q, 0, none⟩ = some (.int .i64 x.1.kind) := by
            have : (⟨q, 0, none⟩ : Addr).add 0 = ⟨q, 0, none⟩ := by unfold Addr.add; simp
            rw [this] at hcell; exact hcell
          have HK : Hid (oneKind [x] k = (x.1.kind == k)) := rfl
          clear hp hown hrow hv hcell hlt hxs hl1
          go_wp2_with (go_at_call 43; go_must (refine (plain_any _ HPL.out _).mono ?_; rintro e w' ⟨rfl, rfl⟩; rw [HP.out]))
          go_ret
          exact RetBW.mk' (by rw [HL.out, HP.out, HNC.out, HK.out]; simp) HB.out
        · have hlb : ((tl.length : Int) == 1) = false := by simp; omega
          have HK : Hid (oneKind tl k = false) := by
            show _ = _
            cases tl with
            | nil => rfl
            | cons a t =>
              cases t with
              | nil => simp at hl1
              | cons b t => rfl
          clear hp hown hrow hl1
          go_wp2_with (go_at_call 43; go_must (refine (plain_any _ HPL.out _).mono ?_; rintro e w' ⟨rfl, rfl⟩; rw [HP.out]))
          go_ret
          exact RetBW.mk' (by rw [HL.out, HP.out, HNC.out, HK.out]; rfl) HB.out
    · clear hp hown hrow
      go_wp2_with (go_at_call 43; go_must (refine (plain_any _ HPL.out _).mono ?_; rintro e w' ⟨rfl, rfl⟩; rw [HP.out]))
      go_ret
      exact RetBW.mk' (by rw [HL.out, HP.out]; rfl) HB.out
end Go.Proofs.YtkfdcbdlcipmfaaGreatFmt
