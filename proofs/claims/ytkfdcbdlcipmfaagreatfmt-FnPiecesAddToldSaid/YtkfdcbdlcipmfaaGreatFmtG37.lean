/- Walks: the reference: a text that is one token. -/
import Derived.Test.YtkfdcbdlcipmfaaGreatFmtG36
import Derived.Test.YtkfdcbdlcipmfaaGreatFmtG09
set_option linter.unusedVariables false
set_option linter.unusedSimpArgs false
namespace Go.Proofs.YtkfdcbdlcipmfaaGreatFmt
open Go.RowKit Css
theorem tkRow_none {s : ByteArray} {xs : List Value} (h : TkRow s [] xs) : xs = [] := by
  generalize e : ([] : List (Tk × List Int × List Int)) = l at h
  cases h with
  | nil => rfl
  | snoc l' xs' y id h' => simp at e
theorem tkRow_one {s : ByteArray} {x : Tk × List Int × List Int} {xs : List Value} (h : TkRow s [x] xs) : ∃ id, xs = tkCells s x id := by
  generalize e : [x] = l at h
  cases h with
  | nil => cases e
  | snoc l' xs' y id h' =>
    cases l' with
    | nil =>
      simp only [List.nil_append, List.cons.injEq, and_true] at e
      subst e
      have := tkRow_none h'
      subst this
      exact ⟨id, rfl⟩
    | cons a t => simp at e
def oneKind (l : List (Tk × List Int × List Int)) (k : Int) : Bool := match l with | [x] => x.1.kind == k | _ => false
theorem loneB_eq (l : List UInt8) (k : Int) : loneB l k = (isPlainB l && !(tokens (dec l)).2.2 && ((tokens (dec l)).2.1 == 0) && oneKind (tokens (dec l)).1 k) := rfl
set_option maxHeartbeats 3200000 in
set_option maxRecDepth 100000 in
theorem lone_any (s : ByteArray) (hs : (s.size : Int) ≤ 2147483647) (k : Int) (w : World) : Calls Tryz.prog 49 #[.string s, .int .i64 k] w (RetBW (loneB s.data.toList k) w) := by
  have HS := Lib.hid hs
  have HL := Lib.hid (loneB_eq s.data.toList k)
  have HPL : Hid ((s.size : Int) ≤ 140737488355328) := by show _ ≤ _; omega
  clear hs
  go_enter Tryz.func49, Tryz.ntmps49
  go_wp2_with fail
  refine (tokens_any s HS.out _).mono ?_
  rintro e w1 ⟨out, A, c, xs, rfl, hown, hrow, hb⟩
  generalize (tokens (dec s.data.toList)).1 = tl at hown hrow HL
  generalize (tokens (dec s.data.toList)).2.1 = nc at HL ⊢
  generalize (tokens (dec s.data.toList)).2.2 = op at HL ⊢
  have HB := Lib.hid hb
  obtain ⟨Ao, co, hout⟩ := own_slice hown
  subst hout
  have hn0 : (0 : Int) ≤ (nc : Int) := by omega
  have hl0 : (0 : Int) ≤ (tl.length : Int) := by omega
  clear hb
  cases hp : isPlainB s.data.toList
  · have HP := Lib.hid hp
    clear hp hown hrow
    go_wp2_with (go_at_call 43; go_must (refine (plain_any _ HPL.out _).mono ?_; rintro e w' ⟨rfl, rfl⟩; rw [HP.out]))
    go_ret
    exact RetBW.mk' (by rw [HL.out, HP.out]; rfl) HB.out
  · have HP := Lib.hid hp
    cases op
    · cases hnc : ((nc : Int) == 0)
      · clear hp hown hrow
        have HNC : Hid ((nc == 0) = false) := by show _ = _; simpa using hnc
        go_wp2_with (go_at_call 43; go_must (refine (plain_any _ HPL.out _).mono ?_; rintro e w' ⟨rfl, rfl⟩; rw [HP.out]))
        go_ret
        exact RetBW.mk' (by rw [HL.out, HP.out, HNC.out]; rfl) HB.out
      · have HNC : Hid ((nc == 0) = true) := by show _ = _; simpa using hnc
        by_cases hl1 : tl.length = 1
        · obtain ⟨x, hx⟩ : ∃ x, tl = [x] := by
            cases tl with
            | nil => simp at hl1
            | cons a t =>
              cases t with
              | nil => exact ⟨a, rfl⟩
              | cons b t => simp at hl1
          subst hx
          obtain ⟨id, hxs⟩ := tkRow_one hrow
          obtain ⟨q, cap, hv, _, hlt⟩ := hown.form (by simp)
          have hcell := hown.cells (g := q) (by rw [hv]; rfl) 0 (.int .i64 x.1.kind) (by rw [hxs]; rfl)
          have hA : Ao = some ⟨q, 0, none⟩ := by injection hv
          subst hA
          have hc0 : w1.cell? ⟨q, 0, none⟩ = some (.int .i64 x.1.kind) := by
            have : (⟨q, 0, none⟩ : Addr).add 0 = ⟨q, 0, none⟩ := by unfold Addr.add; simp
            rw [this] at hcell; exact hcell
          have HK : Hid (oneKind [x] k = (x.1.kind == k)) := rfl
          clear hp hown hrow hv hcell hlt hxs hl1
          go_wp2_with (go_at_call 43; go_must (refine (plain_any _ HPL.out _).mono ?_; rintro e w' ⟨rfl, rfl⟩; rw [HP.out]))
          go_ret
          exact RetBW.mk' (by rw [HL.out, HP.out, HNC.out, HK.out]; simp) HB.out
        · have hlb : ((tl.length : Int) == 1) = false := by simp; omega
          have HK : Hid (oneKind tl k = false) := by
            show _ = _
            cases tl with
            | nil => rfl
            | cons a t =>
              cases t with
              | nil => simp at hl1
              | cons b t => rfl
          clear hp hown hrow hl1
          go_wp2_with (go_at_call 43; go_must (refine (plain_any _ HPL.out _).mono ?_; rintro e w' ⟨rfl, rfl⟩; rw [HP.out]))
          go_ret
          exact RetBW.mk' (by rw [HL.out, HP.out, HNC.out, HK.out]; rfl) HB.out
    · clear hp hown hrow
      go_wp2_with (go_at_call 43; go_must (refine (plain_any _ HPL.out _).mono ?_; rintro e w' ⟨rfl, rfl⟩; rw [HP.out]))
      go_ret
      exact RetBW.mk' (by rw [HL.out, HP.out]; rfl) HB.out
end Go.Proofs.YtkfdcbdlcipmfaaGreatFmt
