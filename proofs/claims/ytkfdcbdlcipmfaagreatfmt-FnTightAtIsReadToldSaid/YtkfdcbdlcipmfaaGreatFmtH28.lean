/- Walks: the reference: whether a name is url; whether a text is trimmed. -/
import Derived.Test.YtkfdcbdlcipmfaaGreatFmtH27
set_option linter.unusedVariables false
set_option linter.unusedSimpArgs false
namespace Go.Proofs.YtkfdcbdlcipmfaaGreatFmt
open Go.RowKit Css
def urlI (a b c : Int) : Bool := (a == 117 || a == 85) && (b == 114 || b == 82) && (c == 108 || c == 76)
theorem isUrlB_bt (s : ByteArray) (h : s.size = 3) : isUrlB s.data.toList = urlI (bt s 0) (bt s 1) (bt s 2) := by
  have hl : s.data.toList.length = 3 := h
  unfold bt
  match hs : s.data.toList, hl with
  | [a, b, c], _ =>
    have e : ∀ (x : UInt8) (n : Nat) (hn : n < 256), (x == UInt8.ofNat n) = (((x.toNat : Nat) : Int) == (n : Int)) := by
      intro x n hn
      rw [Bool.eq_iff_iff]
      simp only [beq_iff_eq]
      rw [← UInt8.toNat_inj, UInt8.toNat_ofNat']
      omega
    have e117 := e
    simp only [isUrlB, urlI, List.getD_cons_zero, List.getD_cons_succ]
    have f := fun x : UInt8 => e x 117 (by decide)
    have f2 := fun x : UInt8 => e x 85 (by decide)
    have f3 := fun x : UInt8 => e x 114 (by decide)
    have f4 := fun x : UInt8 => e x 82 (by decide)
    have f5 := fun x : UInt8 => e x 108 (by decide)
    have f6 := fun x : UInt8 => e x 76 (by decide)
    show ((a == UInt8.ofNat 117 || a == UInt8.ofNat 85) && (b == UInt8.ofNat 114 || b == UInt8.ofNat 82) && (c == UInt8.ofNat 108 || c == UInt8.ofNat 76)) = _
    rw [f, f2, f3, f4, f5, f6]; rfl
theorem isUrlB_len (l : List UInt8) (h : l.length ≠ 3) : isUrlB l = false := by
  unfold isUrlB
  match l, h with
  | [], _ => rfl
  | [_], _ => rfl
  | [_, _], _ => rfl
  | [_, _, _], h => exact absurd rfl h
  | _ :: _ :: _ :: _ :: _, _ => rfl
set_option maxHeartbeats 3200000 in
set_option maxRecDepth 100000 in
theorem isURL_any (s : ByteArray) (w : World) : Calls Tryz.prog 48 #[.string s] w (RetB (isUrlB s.data.toList) w) := by
  by_cases h3 : s.size = 3
  · have HU := Lib.hid (isUrlB_bt s h3)
    have hs : ((s.size : Int) == 3) = true := by simp; omega
    have hs0 : (0 : Int) < (s.size : Int) := by omega
    have hs1 : (1 : Int) < (s.size : Int) := by omega
    have hs2 : (2 : Int) < (s.size : Int) := by omega
    have hx0 := bt_get s 0
    have hx1 := bt_get s 1
    have hx2 := bt_get s 2
    clear h3
    have b0 := bt_range s 0
    have b1 := bt_range s 1
    have b2 := bt_range s 2
    generalize bt s 0 = x0 at *
    generalize bt s 1 = x1 at *
    generalize bt s 2 = x2 at *
    cases a1 : (x0 == 117) <;> cases a2 : (x0 == 85) <;> cases a3 : (x1 == 114) <;> cases a4 : (x1 == 82) <;> cases a5 : (x2 == 108) <;> cases a6 : (x2 == 76)
    all_goals
      go_enter Tryz.func48, Tryz.ntmps48
      go_wp2
      go_ret
      exact RetB.mk' (by rw [HU.out]; unfold urlI; rw [a1, a2, a3, a4, a5, a6]; rfl)
  · have HU := Lib.hid (isUrlB_len s.data.toList h3)
    have hs : ((s.size : Int) == 3) = false := by simp; omega
    clear h3
    go_enter Tryz.func48, Tryz.ntmps48
    go_wp2
    go_ret
    exact RetB.mk' (by rw [HU.out])
theorem loop_ne (bs : ByteArray) : ∀ (k i : Nat) (r : List UInt8), bs.size - i = k → (r ≠ [] ∨ i < bs.size) → ByteArray.toList.loop bs i r ≠ [] := by
  intro k
  induction k with
  | zero =>
    intro i r hk h
    rw [ByteArray.toList.loop, if_neg (by omega)]
    have : r ≠ [] := by rcases h with h | h; exact h; omega
    simpa using this
  | succ k ih =>
    intro i r hk h
    rw [ByteArray.toList.loop, if_pos (by omega)]
    exact ih (i + 1) _ (by omega) (.inl (by simp))
theorem toList_ne (s : ByteArray) (h : 0 < s.size) : s.toList ≠ [] := loop_ne s _ 0 [] rfl (.inr h)
theorem spB_int (b : UInt8) : spB b = spQ (b.toNat : Int) := by
  rw [Bool.eq_iff_iff, spQ_iff]
  have e : ∀ (n : Nat) (hn : n < 256), (b = UInt8.ofNat n) ↔ ((b.toNat : Int) = (n : Int)) := by
    intro n hn
    rw [← UInt8.toNat_inj, UInt8.toNat_ofNat']
    omega
  have f1 := e 10 (by decide)
  have f2 := e 13 (by decide)
  have f3 := e 12 (by decide)
  have f4 := e 9 (by decide)
  have f5 := e 32 (by decide)
  unfold spB isSp isNl
  simp only [Bool.or_eq_true, beq_iff_eq]
  show ((((b = UInt8.ofNat 10 ∨ b = UInt8.ofNat 13) ∨ b = UInt8.ofNat 12) ∨ b = UInt8.ofNat 9) ∨ b = UInt8.ofNat 32) ↔ _
  rw [f1, f2, f3, f4, f5]
  constructor
  · rintro ((((h | h) | h) | h) | h)
    · exact .inl (.inl h)
    · exact .inl (.inr (.inl h))
    · exact .inl (.inr (.inr h))
    · exact .inr (.inl h)
    · exact .inr (.inr h)
  · rintro ((h | h | h) | h | h)
    · exact .inl (.inl (.inl (.inl h)))
    · exact .inl (.inl (.inl (.inr h)))
    · exact .inl (.inl (.inr h))
    · exact .inl (.inr h)
    · exact .inr h
theorem trimmedB_bt (s : ByteArray) (h : 0 < s.size) : trimmedB s.data.toList = (!spQ (bt s 0) && !spQ (bt s (s.size - 1))) := by
  have hl : s.data.toList.length = s.size := rfl
  unfold trimmedB bt
  rw [spB_int, spB_int]
  cases hs : s.data.toList with
  | nil => rw [hs] at hl; simp at hl; omega
  | cons a t =>
    rw [hs] at hl
    have e : (a :: t).getLastD 0 = (a :: t).getD (s.size - 1) 0 := by
      rw [← hl, List.getLastD_cons, List.getD_eq_getElem?_getD, ← List.getLast?_eq_getElem?]
      simp [List.getLast?_cons]
    rw [e]
    simp
set_option maxHeartbeats 3200000 in
set_option maxRecDepth 100000 in
theorem trimmed_any (s : ByteArray) (hs : (s.size : Int) ≤ 1125899906842624) (w : World) : Calls Tryz.prog 96 #[.string s] w (RetB (trimmedB s.data.toList) w) := by
  by_cases h3 : s.size = 0
  · have hd : s = ⟨#[]⟩ := by
      obtain ⟨a⟩ := s
      have : a.size = 0 := h3
      rw [Array.size_eq_zero_iff] at this
      rw [this]
    subst hd
    clear h3
    go_enter Tryz.func96, Tryz.ntmps96
    go_wp2
    go_ret
    exact RetB.mk' rfl
  · have HU := Lib.hid (trimmedB_bt s (by omega))
    obtain ⟨m, hm⟩ : ∃ m : Nat, (s.size : Int) - 1 = (m : Int) := ⟨s.size - 1, by omega⟩
    have hm2 : s.size - 1 = m := by omega
    rw [hm2] at HU
    have hml : (m : Int) < (s.size : Int) := by omega
    have hs0 : (0 : Int) < (s.size : Int) := by omega
    have hse : s.toList.isEmpty = false ∧ (!s.toList.isEmpty) = true := by
      have := toList_ne s (by omega)
      simp [this]
    obtain ⟨hse1, hse2⟩ := hse
    have hx0 := bt_get s 0
    have hxm := bt_get s m
    have b0 := bt_range s 0
    have bm := bt_range s m
    clear h3 hm2
    generalize bt s 0 = x0 at *
    generalize bt s m = xm at *
    cases q1 : spQ x0 <;> cases q2 : spQ xm
    all_goals
      have Q1 := Lib.hid q1
      have Q2 := Lib.hid q2
      clear q1 q2
      go_enter Tryz.func96, Tryz.ntmps96
      go_wp2_with fail
      refine (sp_any _ _).mono ?_
      rintro e w' ⟨rfl, rfl⟩
      rw [Q1.out]
      go_wp2_with (go_at_call 64; go_must (refine (sp_any _ _).mono ?_; rintro e w' ⟨rfl, rfl⟩; rw [Q2.out]))
      go_ret
      exact RetB.mk' (by rw [HU.out, Q1.out, Q2.out]; rfl)
end Go.Proofs.YtkfdcbdlcipmfaaGreatFmt
