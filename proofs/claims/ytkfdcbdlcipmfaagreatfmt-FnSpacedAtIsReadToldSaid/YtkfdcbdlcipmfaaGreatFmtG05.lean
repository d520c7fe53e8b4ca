/- Walks: the reference's decoding of one code point (printed by genS2.py). -/
import Derived.Test.YtkfdcbdlcipmfaaGreatFmtG04
import Derived.Handy
set_option linter.unusedVariables false
set_option linter.unusedSimpArgs false
namespace Go.Proofs.YtkfdcbdlcipmfaaGreatFmt
open Go.RowKit Css
section
variable {x y : Int}
theorem wraps_i64 (n : Int) (h₀ : 0 ≤ n) (h₁ : n < 2 ^ 31) : IntKind.i64.wrap n = n := by rw [IntKind.wrap_i64]; omega
theorem i64_and31 (h₀ : 0 ≤ x) (h₁ : x < 256) : bits .and .i64 x 31 = x % 32 := bits_mask .i64 31 (by decide) wraps_i64 5 (by decide) x h₀ (by omega)
theorem i64_and15 (h₀ : 0 ≤ x) (h₁ : x < 256) : bits .and .i64 x 15 = x % 16 := bits_mask .i64 31 (by decide) wraps_i64 4 (by decide) x h₀ (by omega)
theorem i64_and7 (h₀ : 0 ≤ x) (h₁ : x < 256) : bits .and .i64 x 7 = x % 8 := bits_mask .i64 31 (by decide) wraps_i64 3 (by decide) x h₀ (by omega)
theorem i64_or6 (hx₀ : 0 ≤ x) (hx : x % 64 = 0) (hx₁ : x < 2147483648) (h₀ : 0 ≤ y) (h₁ : y < 64) : bits .or .i64 x y = x + y :=
  bits_join .i64 31 (by decide) wraps_i64 6 x y hx₀ hx hx₁ h₀ h₁ (by omega)
set_option maxRecDepth 100000 in
theorem and192 : ∀ a : Fin 256, a.val &&& 192 = a.val / 64 * 64 := by decide
theorem u8_and192 (h₀ : 0 ≤ x) (h₁ : x < 256) : bits .and .u8 x 192 = x / 64 * 64 := by
  obtain ⟨a, rfl⟩ := Int.eq_ofNat_of_zero_le h₀
  have ha : a < 2 ^ 8 := by omega
  have := (bits_nat .u8 8 (by decide) wraps_u8 a 192 ha (by decide)).1
  have h2 : a &&& 192 = a / 64 * 64 := and192 ⟨a, by omega⟩
  rw [show (192 : Int) = ((192 : Nat) : Int) from rfl, this, h2]
  omega
theorem u8_and63' (h₀ : 0 ≤ x) (h₁ : x < 256) : bits .and .u8 x 63 = x % 64 := u8_and63 x h₀ h₁
end
theorem drop_bt (s : ByteArray) (p : Nat) (hp : p < s.size) : ∃ x : UInt8, (x.toNat : Int) = bt s p ∧ s.data.toList.drop p = x :: s.data.toList.drop (p + 1) := by
  have h2 : p < s.data.toList.length := hp
  refine ⟨s.data.toList[p], ?_, List.drop_eq_getElem_cons h2⟩
  unfold bt
  rw [List.getD_eq_getElem?_getD, List.getElem?_eq_getElem h2]; rfl
/-- What is read of a text's bytes from a place on. -/
def runeQ (s : ByteArray) (p : Nat) : Int × Nat := runeL (s.data.toList.drop p)
def chk (n : Nat) (low c : Int) : Int × Nat := if c < low ∨ c > 1114111 ∨ (55296 ≤ c ∧ c < 57344) then (-2, 1) else (c, n)
def RetR (r : Int × Nat) (w : World) (e : Ending) (w' : World) : Prop := e = .returned (.tuple #[.int .i64 r.1, .int .i64 (r.2 : Nat)]) ∧ w = w'
theorem RetR.mk' {r : Int × Nat} {a b : Int} {w : World} (h : r.1 = a ∧ (r.2 : Int) = b) : RetR r w (.returned (.tuple #[.int .i64 a, .int .i64 b])) w := ⟨by rw [h.1, h.2], rfl⟩
theorem contL_drop (s : ByteArray) (k p : Nat) (b : Int) : contL (k + 1) (s.data.toList.drop p) b = if p < s.size ∧ bt s p / 64 = 2 then contL k (s.data.toList.drop (p + 1)) (b * 64 + bt s p % 64) else none := by
  by_cases hp : p < s.size
  · obtain ⟨x, hx, hd⟩ := drop_bt s p hp
    rw [hd, contL_cons]
    by_cases h : x.toNat / 64 = 2
    · rw [if_pos h, if_pos ⟨hp, by omega⟩]; congr 2; omega
    · rw [if_neg h, if_neg (by omega)]
  · have : s.data.toList.drop p = [] := List.drop_eq_nil_of_le (by show s.size ≤ p; omega)
    rw [this, if_neg (by omega)]; rfl
theorem runeQ_end (s : ByteArray) (p : Nat) (hp : s.size ≤ p) : runeQ s p = (-1, 0) := by
  unfold runeQ; rw [List.drop_eq_nil_of_le (show s.data.toList.length ≤ p from hp)]; rfl
theorem runeQ_low (s : ByteArray) (p : Nat) (hp : p < s.size) (h : bt s p < 128) : runeQ s p = (bt s p, 1) := by
  obtain ⟨x, hx, hd⟩ := drop_bt s p hp
  unfold runeQ; rw [hd, runeL_cons, if_pos (by omega), hx]
theorem runeQ_bad (s : ByteArray) (p : Nat) (hp : p < s.size) (h : 128 ≤ bt s p) (h2 : bt s p < 194 ∨ 245 ≤ bt s p) : runeQ s p = (-2, 1) := by
  obtain ⟨x, hx, hd⟩ := drop_bt s p hp
  unfold runeQ; rw [hd, runeL_cons, if_neg (by omega), if_pos]
  unfold headL; rw [if_neg (by omega), if_neg (by omega), if_neg (by omega)]

theorem runeQ_2 (s : ByteArray) (p : Nat) (hp : p < s.size) (h1 : 194 ≤ bt s p) (h2 : bt s p < 224) : runeQ s p = if (p + 1 < s.size ∧ bt s (p + 1) / 64 = 2) then chk 2 128 ((bt s p % 32) * 64 + bt s (p + 1) % 64) else (-2, 1) := by
  obtain ⟨x, hx, hd⟩ := drop_bt s p hp
  have hh : headL x.toNat = (2, 128, bt s p % 32) := by
    unfold headL; rw [if_pos (by omega)]; congr 2; omega
  unfold runeQ; rw [hd, runeL_cons, if_neg (by omega), hh, if_neg (show ¬ ((2 : Nat) = 0) by decide)]
  show (match contL 1 (s.data.toList.drop (p + 1)) (bt s p % 32) with | none => (-2, 1) | some c => if c < 128 ∨ c > 1114111 ∨ (55296 ≤ c ∧ c < 57344) then (-2, 1) else (c, 2)) = _
  rw [contL_drop]
  by_cases g1 : p + 1 < s.size ∧ bt s (p + 1) / 64 = 2
  rotate_left
  · rw [if_neg g1, if_neg (by intro h; apply g1; first | exact h | exact h.1 | exact h.2 | exact h.2.1 | exact h.2.2)]
  rw [if_pos g1]
  rw [contL_zero, if_pos (g1)]
  rfl
theorem runeQ_3 (s : ByteArray) (p : Nat) (hp : p < s.size) (h1 : 224 ≤ bt s p) (h2 : bt s p < 240) : runeQ s p = if (p + 1 < s.size ∧ bt s (p + 1) / 64 = 2) ∧ (p + 2 < s.size ∧ bt s (p + 2) / 64 = 2) then chk 3 2048 (((bt s p % 16) * 64 + bt s (p + 1) % 64) * 64 + bt s (p + 2) % 64) else (-2, 1) := by
  obtain ⟨x, hx, hd⟩ := drop_bt s p hp
  have hh : headL x.toNat = (3, 2048, bt s p % 16) := by
    unfold headL; rw [if_neg (by omega), if_pos (by omega)]; congr 2; omega
  unfold runeQ; rw [hd, runeL_cons, if_neg (by omega), hh, if_neg (show ¬ ((3 : Nat) = 0) by decide)]
  show (match contL 2 (s.data.toList.drop (p + 1)) (bt s p % 16) with | none => (-2, 1) | some c => if c < 2048 ∨ c > 1114111 ∨ (55296 ≤ c ∧ c < 57344) then (-2, 1) else (c, 3)) = _
  rw [contL_drop]
  by_cases g1 : p + 1 < s.size ∧ bt s (p + 1) / 64 = 2
  rotate_left
  · rw [if_neg g1, if_neg (by intro h; apply g1; first | exact h | exact h.1 | exact h.2 | exact h.2.1 | exact h.2.2)]
  rw [if_pos g1]
  rw [contL_drop]
  by_cases g2 : p + 2 < s.size ∧ bt s (p + 2) / 64 = 2
  rotate_left
  · rw [if_neg g2, if_neg (by intro h; apply g2; first | exact h | exact h.1 | exact h.2 | exact h.2.1 | exact h.2.2)]
  rw [if_pos g2]
  rw [contL_zero, if_pos (⟨g1, g2⟩)]
  rfl
theorem runeQ_4 (s : ByteArray) (p : Nat) (hp : p < s.size) (h1 : 240 ≤ bt s p) (h2 : bt s p < 245) : runeQ s p = if (p + 1 < s.size ∧ bt s (p + 1) / 64 = 2) ∧ (p + 2 < s.size ∧ bt s (p + 2) / 64 = 2) ∧ (p + 3 < s.size ∧ bt s (p + 3) / 64 = 2) then chk 4 65536 ((((bt s p % 8) * 64 + bt s (p + 1) % 64) * 64 + bt s (p + 2) % 64) * 64 + bt s (p + 3) % 64) else (-2, 1) := by
  obtain ⟨x, hx, hd⟩ := drop_bt s p hp
  have hh : headL x.toNat = (4, 65536, bt s p % 8) := by
    unfold headL; rw [if_neg (by omega), if_neg (by omega), if_pos (by omega)]; congr 2; omega
  unfold runeQ; rw [hd, runeL_cons, if_neg (by omega), hh, if_neg (show ¬ ((4 : Nat) = 0) by decide)]
  show (match contL 3 (s.data.toList.drop (p + 1)) (bt s p % 8) with | none => (-2, 1) | some c => if c < 65536 ∨ c > 1114111 ∨ (55296 ≤ c ∧ c < 57344) then (-2, 1) else (c, 4)) = _
  rw [contL_drop]
  by_cases g1 : p + 1 < s.size ∧ bt s (p + 1) / 64 = 2
  rotate_left
  · rw [if_neg g1, if_neg (by intro h; apply g1; first | exact h | exact h.1 | exact h.2 | exact h.2.1 | exact h.2.2)]
  rw [if_pos g1]
  rw [contL_drop]
  by_cases g2 : p + 2 < s.size ∧ bt s (p + 2) / 64 = 2
  rotate_left
  · rw [if_neg g2, if_neg (by intro h; apply g2; first | exact h | exact h.1 | exact h.2 | exact h.2.1 | exact h.2.2)]
  rw [if_pos g2]
  rw [contL_drop]
  by_cases g3 : p + 3 < s.size ∧ bt s (p + 3) / 64 = 2
  rotate_left
  · rw [if_neg g3, if_neg (by intro h; apply g3; first | exact h | exact h.1 | exact h.2 | exact h.2.1 | exact h.2.2)]
  rw [if_pos g3]
  rw [contL_zero, if_pos (⟨g1, g2, g3⟩)]
  rfl
set_option maxHeartbeats 1600000 in
set_option maxRecDepth 100000 in
theorem r2a (s : ByteArray) (p : Nat) (hs : (s.size : Int) ≤ 140737488355328) (hp : (p : Int) < (s.size : Int)) (h1 : 194 ≤ bt s p) (h2 : bt s p < 224) (e1 : (s.size : Int) ≤ ((p + 1 : Nat) : Int)) (w : World) : Calls Tryz.prog 52 #[.string s, .int .i64 p] w (RetR (-2, 1) w) := by
  have b0 := bt_get s p
  have r0 := bt_range s p
  generalize bt s p = x0 at *
  have k0 : bits .and .i64 x0 31 = x0 % 32 := i64_and31 r0.1 (by omega)
  go_enter Tryz.func52, Tryz.ntmps52
  go_wp2
  go_rounds 4
  go_ret2
  exact RetR.mk' ⟨rfl, rfl⟩
set_option maxHeartbeats 1600000 in
set_option maxRecDepth 100000 in
theorem r2b (s : ByteArray) (p : Nat) (hs : (s.size : Int) ≤ 140737488355328) (hp : (p : Int) < (s.size : Int)) (h1 : 194 ≤ bt s p) (h2 : bt s p < 224) (e1 : ((p + 1 : Nat) : Int) < (s.size : Int)) (g1 : ¬ bt s (p + 1) / 64 = 2) (w : World) : Calls Tryz.prog 52 #[.string s, .int .i64 p] w (RetR (-2, 1) w) := by
  have b0 := bt_get s p
  have r0 := bt_range s p
  have b1 := bt_get s (p + 1)
  have r1 := bt_range s (p + 1)
  generalize bt s p = x0 at *
  generalize bt s (p + 1) = x1 at *
  have k0 : bits .and .i64 x0 31 = x0 % 32 := i64_and31 r0.1 (by omega)
  obtain ⟨z, kz, zn⟩ : ∃ z, bits .and .u8 x1 192 = z ∧ (z != 128) = true := ⟨_, rfl, by rw [u8_and192 r1.1 (by omega)]; simp; omega⟩
  clear g1
  go_enter Tryz.func52, Tryz.ntmps52
  go_wp2
  go_rounds 4
  go_ret2
  exact RetR.mk' ⟨rfl, rfl⟩
set_option maxHeartbeats 1600000 in
set_option maxRecDepth 100000 in
theorem r2c (s : ByteArray) (p : Nat) (hs : (s.size : Int) ≤ 140737488355328) (hp : (p : Int) < (s.size : Int)) (h1 : 194 ≤ bt s p) (h2 : bt s p < 224) (e1 : ((p + 1 : Nat) : Int) < (s.size : Int)) (g1 : bt s (p + 1) / 64 = 2) (hc : 128 ≤ ((bt s p % 32) * 64 + bt s (p + 1) % 64)) (hc2 : ((bt s p % 32) * 64 + bt s (p + 1) % 64) ≤ 1114111) (hc3 : ((bt s p % 32) * 64 + bt s (p + 1) % 64) < 55296 ∨ 57344 ≤ ((bt s p % 32) * 64 + bt s (p + 1) % 64)) (w : World) : Calls Tryz.prog 52 #[.string s, .int .i64 p] w (RetR (((bt s p % 32) * 64 + bt s (p + 1) % 64), 2) w) := by
  have b0 := bt_get s p
  have r0 := bt_range s p
  have b1 := bt_get s (p + 1)
  have r1 := bt_range s (p + 1)
  generalize bt s p = x0 at *
  generalize bt s (p + 1) = x1 at *
  have k0 : bits .and .i64 x0 31 = x0 % 32 := i64_and31 r0.1 (by omega)
  have k1 : bits .and .u8 x1 192 = 128 := by rw [u8_and192 r1.1 (by omega)]; omega
  have m1 : bits .and .u8 x1 63 = x1 % 64 := u8_and63 _ r1.1 (by omega)
  have y1 : ((x0 % 32) * 64 + x1 % 64) = ((x0 % 32) * 64 + x1 % 64) := rfl
  have o1 : bits .or .i64 ((x0 % 32) * 64) (x1 % 64) = (x0 % 32) * 64 + x1 % 64 := i64_or6 (by omega) (by omega) (by omega) (by omega) (by omega)
  clear y1
  clear g1
  have hc3 : ((x0 % 32) * 64 + x1 % 64) < 55296 := by omega
  all_goals
    go_enter Tryz.func52, Tryz.ntmps52
    go_wp2
    go_rounds 4
    go_ret2
    exact RetR.mk' ⟨rfl, rfl⟩
set_option maxHeartbeats 1600000 in
set_option maxRecDepth 100000 in
theorem r3a (s : ByteArray) (p : Nat) (hs : (s.size : Int) ≤ 140737488355328) (hp : (p : Int) < (s.size : Int)) (h1 : 224 ≤ bt s p) (h2 : bt s p < 240) (e1 : (s.size : Int) ≤ ((p + 1 : Nat) : Int)) (w : World) : Calls Tryz.prog 52 #[.string s, .int .i64 p] w (RetR (-2, 1) w) := by
  have b0 := bt_get s p
  have r0 := bt_range s p
  generalize bt s p = x0 at *
  have k0 : bits .and .i64 x0 15 = x0 % 16 := i64_and15 r0.1 (by omega)
  go_enter Tryz.func52, Tryz.ntmps52
  go_wp2
  go_rounds 4
  go_ret2
  exact RetR.mk' ⟨rfl, rfl⟩
set_option maxHeartbeats 1600000 in
set_option maxRecDepth 100000 in
theorem r3b (s : ByteArray) (p : Nat) (hs : (s.size : Int) ≤ 140737488355328) (hp : (p : Int) < (s.size : Int)) (h1 : 224 ≤ bt s p) (h2 : bt s p < 240) (e1 : ((p + 1 : Nat) : Int) < (s.size : Int)) (g1 : ¬ bt s (p + 1) / 64 = 2) (w : World) : Calls Tryz.prog 52 #[.string s, .int .i64 p] w (RetR (-2, 1) w) := by
  have b0 := bt_get s p
  have r0 := bt_range s p
  have b1 := bt_get s (p + 1)
  have r1 := bt_range s (p + 1)
  generalize bt s p = x0 at *
  generalize bt s (p + 1) = x1 at *
  have k0 : bits .and .i64 x0 15 = x0 % 16 := i64_and15 r0.1 (by omega)
  obtain ⟨z, kz, zn⟩ : ∃ z, bits .and .u8 x1 192 = z ∧ (z != 128) = true := ⟨_, rfl, by rw [u8_and192 r1.1 (by omega)]; simp; omega⟩
  clear g1
  go_enter Tryz.func52, Tryz.ntmps52
  go_wp2
  go_rounds 4
  go_ret2
  exact RetR.mk' ⟨rfl, rfl⟩
set_option maxHeartbeats 1600000 in
set_option maxRecDepth 100000 in
theorem r3c (s : ByteArray) (p : Nat) (hs : (s.size : Int) ≤ 140737488355328) (hp : (p : Int) < (s.size : Int)) (h1 : 224 ≤ bt s p) (h2 : bt s p < 240) (e1 : ((p + 1 : Nat) : Int) < (s.size : Int)) (g1 : bt s (p + 1) / 64 = 2) (e2 : (s.size : Int) ≤ ((p + 2 : Nat) : Int)) (w : World) : Calls Tryz.prog 52 #[.string s, .int .i64 p] w (RetR (-2, 1) w) := by
  have b0 := bt_get s p
  have r0 := bt_range s p
  have b1 := bt_get s (p + 1)
  have r1 := bt_range s (p + 1)
  generalize bt s p = x0 at *
  generalize bt s (p + 1) = x1 at *
  have k0 : bits .and .i64 x0 15 = x0 % 16 := i64_and15 r0.1 (by omega)
  have k1 : bits .and .u8 x1 192 = 128 := by rw [u8_and192 r1.1 (by omega)]; omega
  have m1 : bits .and .u8 x1 63 = x1 % 64 := u8_and63 _ r1.1 (by omega)
  have y1 : ((x0 % 16) * 64 + x1 % 64) = ((x0 % 16) * 64 + x1 % 64) := rfl
  have o1 : bits .or .i64 ((x0 % 16) * 64) (x1 % 64) = (x0 % 16) * 64 + x1 % 64 := i64_or6 (by omega) (by omega) (by omega) (by omega) (by omega)
  clear y1
  clear g1
  go_enter Tryz.func52, Tryz.ntmps52
  go_wp2
  go_rounds 4
  go_ret2
  exact RetR.mk' ⟨rfl, rfl⟩
set_option maxHeartbeats 1600000 in
set_option maxRecDepth 100000 in
theorem r3d (s : ByteArray) (p : Nat) (hs : (s.size : Int) ≤ 140737488355328) (hp : (p : Int) < (s.size : Int)) (h1 : 224 ≤ bt s p) (h2 : bt s p < 240) (e1 : ((p + 1 : Nat) : Int) < (s.size : Int)) (g1 : bt s (p + 1) / 64 = 2) (e2 : ((p + 2 : Nat) : Int) < (s.size : Int)) (g2 : ¬ bt s (p + 2) / 64 = 2) (w : World) : Calls Tryz.prog 52 #[.string s, .int .i64 p] w (RetR (-2, 1) w) := by
  have b0 := bt_get s p
  have r0 := bt_range s p
  have b1 := bt_get s (p + 1)
  have r1 := bt_range s (p + 1)
  have b2 := bt_get s (p + 2)
  have r2 := bt_range s (p + 2)
  generalize bt s p = x0 at *
  generalize bt s (p + 1) = x1 at *
  generalize bt s (p + 2) = x2 at *
  have k0 : bits .and .i64 x0 15 = x0 % 16 := i64_and15 r0.1 (by omega)
  have k1 : bits .and .u8 x1 192 = 128 := by rw [u8_and192 r1.1 (by omega)]; omega
  have m1 : bits .and .u8 x1 63 = x1 % 64 := u8_and63 _ r1.1 (by omega)
  have y1 : ((x0 % 16) * 64 + x1 % 64) = ((x0 % 16) * 64 + x1 % 64) := rfl
  have o1 : bits .or .i64 ((x0 % 16) * 64) (x1 % 64) = (x0 % 16) * 64 + x1 % 64 := i64_or6 (by omega) (by omega) (by omega) (by omega) (by omega)
  clear y1
  obtain ⟨z, kz, zn⟩ : ∃ z, bits .and .u8 x2 192 = z ∧ (z != 128) = true := ⟨_, rfl, by rw [u8_and192 r2.1 (by omega)]; simp; omega⟩
  clear g1
  clear g2
  go_enter Tryz.func52, Tryz.ntmps52
  go_wp2
  go_rounds 4
  go_ret2
  exact RetR.mk' ⟨rfl, rfl⟩
set_option maxHeartbeats 1600000 in
set_option maxRecDepth 100000 in
theorem r3e (s : ByteArray) (p : Nat) (hs : (s.size : Int) ≤ 140737488355328) (hp : (p : Int) < (s.size : Int)) (h1 : 224 ≤ bt s p) (h2 : bt s p < 240) (e1 : ((p + 1 : Nat) : Int) < (s.size : Int)) (g1 : bt s (p + 1) / 64 = 2) (e2 : ((p + 2 : Nat) : Int) < (s.size : Int)) (g2 : bt s (p + 2) / 64 = 2) (hc : (((bt s p % 16) * 64 + bt s (p + 1) % 64) * 64 + bt s (p + 2) % 64) < 2048) (w : World) : Calls Tryz.prog 52 #[.string s, .int .i64 p] w (RetR (-2, 1) w) := by
  have b0 := bt_get s p
  have r0 := bt_range s p
  have b1 := bt_get s (p + 1)
  have r1 := bt_range s (p + 1)
  have b2 := bt_get s (p + 2)
  have r2 := bt_range s (p + 2)
  generalize bt s p = x0 at *
  generalize bt s (p + 1) = x1 at *
  generalize bt s (p + 2) = x2 at *
  have k0 : bits .and .i64 x0 15 = x0 % 16 := i64_and15 r0.1 (by omega)
  have k1 : bits .and .u8 x1 192 = 128 := by rw [u8_and192 r1.1 (by omega)]; omega
  have m1 : bits .and .u8 x1 63 = x1 % 64 := u8_and63 _ r1.1 (by omega)
  have y1 : ((x0 % 16) * 64 + x1 % 64) = ((x0 % 16) * 64 + x1 % 64) := rfl
  have o1 : bits .or .i64 ((x0 % 16) * 64) (x1 % 64) = (x0 % 16) * 64 + x1 % 64 := i64_or6 (by omega) (by omega) (by omega) (by omega) (by omega)
  clear y1
  have k2 : bits .and .u8 x2 192 = 128 := by rw [u8_and192 r2.1 (by omega)]; omega
  have m2 : bits .and .u8 x2 63 = x2 % 64 := u8_and63 _ r2.1 (by omega)
  have y2 : (((x0 % 16) * 64 + x1 % 64) * 64 + x2 % 64) = (((x0 % 16) * 64 + x1 % 64) * 64 + x2 % 64) := rfl
  have o2 : bits .or .i64 (((x0 % 16) * 64 + x1 % 64) * 64) (x2 % 64) = ((x0 % 16) * 64 + x1 % 64) * 64 + x2 % 64 := i64_or6 (by omega) (by omega) (by omega) (by omega) (by omega)
  clear y2
  clear g1
  clear g2
  go_enter Tryz.func52, Tryz.ntmps52
  go_wp2
  go_rounds 4
  go_ret2
  exact RetR.mk' ⟨rfl, rfl⟩
set_option maxHeartbeats 1600000 in
set_option maxRecDepth 100000 in
theorem r3f (s : ByteArray) (p : Nat) (hs : (s.size : Int) ≤ 140737488355328) (hp : (p : Int) < (s.size : Int)) (h1 : 224 ≤ bt s p) (h2 : bt s p < 240) (e1 : ((p + 1 : Nat) : Int) < (s.size : Int)) (g1 : bt s (p + 1) / 64 = 2) (e2 : ((p + 2 : Nat) : Int) < (s.size : Int)) (g2 : bt s (p + 2) / 64 = 2) (hc : 55296 ≤ (((bt s p % 16) * 64 + bt s (p + 1) % 64) * 64 + bt s (p + 2) % 64)) (hc2 : (((bt s p % 16) * 64 + bt s (p + 1) % 64) * 64 + bt s (p + 2) % 64) < 57344) (w : World) : Calls Tryz.prog 52 #[.string s, .int .i64 p] w (RetR (-2, 1) w) := by
  have b0 := bt_get s p
  have r0 := bt_range s p
  have b1 := bt_get s (p + 1)
  have r1 := bt_range s (p + 1)
  have b2 := bt_get s (p + 2)
  have r2 := bt_range s (p + 2)
  generalize bt s p = x0 at *
  generalize bt s (p + 1) = x1 at *
  generalize bt s (p + 2) = x2 at *
  have k0 : bits .and .i64 x0 15 = x0 % 16 := i64_and15 r0.1 (by omega)
  have k1 : bits .and .u8 x1 192 = 128 := by rw [u8_and192 r1.1 (by omega)]; omega
  have m1 : bits .and .u8 x1 63 = x1 % 64 := u8_and63 _ r1.1 (by omega)
  have y1 : ((x0 % 16) * 64 + x1 % 64) = ((x0 % 16) * 64 + x1 % 64) := rfl
  have o1 : bits .or .i64 ((x0 % 16) * 64) (x1 % 64) = (x0 % 16) * 64 + x1 % 64 := i64_or6 (by omega) (by omega) (by omega) (by omega) (by omega)
  clear y1
  have k2 : bits .and .u8 x2 192 = 128 := by rw [u8_and192 r2.1 (by omega)]; omega
  have m2 : bits .and .u8 x2 63 = x2 % 64 := u8_and63 _ r2.1 (by omega)
  have y2 : (((x0 % 16) * 64 + x1 % 64) * 64 + x2 % 64) = (((x0 % 16) * 64 + x1 % 64) * 64 + x2 % 64) := rfl
  have o2 : bits .or .i64 (((x0 % 16) * 64 + x1 % 64) * 64) (x2 % 64) = ((x0 % 16) * 64 + x1 % 64) * 64 + x2 % 64 := i64_or6 (by omega) (by omega) (by omega) (by omega) (by omega)
  clear y2
  clear g1
  clear g2
  go_enter Tryz.func52, Tryz.ntmps52
  go_wp2
  go_rounds 4
  go_ret2
  exact RetR.mk' ⟨rfl, rfl⟩
set_option maxHeartbeats 1600000 in
set_option maxRecDepth 100000 in
theorem r3g (s : ByteArray) (p : Nat) (hs : (s.size : Int) ≤ 140737488355328) (hp : (p : Int) < (s.size : Int)) (h1 : 224 ≤ bt s p) (h2 : bt s p < 240) (e1 : ((p + 1 : Nat) : Int) < (s.size : Int)) (g1 : bt s (p + 1) / 64 = 2) (e2 : ((p + 2 : Nat) : Int) < (s.size : Int)) (g2 : bt s (p + 2) / 64 = 2) (hc : 2048 ≤ (((bt s p % 16) * 64 + bt s (p + 1) % 64) * 64 + bt s (p + 2) % 64)) (hc2 : (((bt s p % 16) * 64 + bt s (p + 1) % 64) * 64 + bt s (p + 2) % 64) ≤ 1114111) (hc3 : (((bt s p % 16) * 64 + bt s (p + 1) % 64) * 64 + bt s (p + 2) % 64) < 55296 ∨ 57344 ≤ (((bt s p % 16) * 64 + bt s (p + 1) % 64) * 64 + bt s (p + 2) % 64)) (w : World) : Calls Tryz.prog 52 #[.string s, .int .i64 p] w (RetR ((((bt s p % 16) * 64 + bt s (p + 1) % 64) * 64 + bt s (p + 2) % 64), 3) w) := by
  have b0 := bt_get s p
  have r0 := bt_range s p
  have b1 := bt_get s (p + 1)
  have r1 := bt_range s (p + 1)
  have b2 := bt_get s (p + 2)
  have r2 := bt_range s (p + 2)
  generalize bt s p = x0 at *
  generalize bt s (p + 1) = x1 at *
  generalize bt s (p + 2) = x2 at *
  have k0 : bits .and .i64 x0 15 = x0 % 16 := i64_and15 r0.1 (by omega)
  have k1 : bits .and .u8 x1 192 = 128 := by rw [u8_and192 r1.1 (by omega)]; omega
  have m1 : bits .and .u8 x1 63 = x1 % 64 := u8_and63 _ r1.1 (by omega)
  have y1 : ((x0 % 16) * 64 + x1 % 64) = ((x0 % 16) * 64 + x1 % 64) := rfl
  have o1 : bits .or .i64 ((x0 % 16) * 64) (x1 % 64) = (x0 % 16) * 64 + x1 % 64 := i64_or6 (by omega) (by omega) (by omega) (by omega) (by omega)
  clear y1
  have k2 : bits .and .u8 x2 192 = 128 := by rw [u8_and192 r2.1 (by omega)]; omega
  have m2 : bits .and .u8 x2 63 = x2 % 64 := u8_and63 _ r2.1 (by omega)
  have y2 : (((x0 % 16) * 64 + x1 % 64) * 64 + x2 % 64) = (((x0 % 16) * 64 + x1 % 64) * 64 + x2 % 64) := rfl
  have o2 : bits .or .i64 (((x0 % 16) * 64 + x1 % 64) * 64) (x2 % 64) = ((x0 % 16) * 64 + x1 % 64) * 64 + x2 % 64 := i64_or6 (by omega) (by omega) (by omega) (by omega) (by omega)
  clear y2
  clear g1
  clear g2
  rcases hc3 with hc3 | hc3
  all_goals
    go_enter Tryz.func52, Tryz.ntmps52
    go_wp2
    go_rounds 4
    go_ret2
    exact RetR.mk' ⟨rfl, rfl⟩
set_option maxHeartbeats 1600000 in
set_option maxRecDepth 100000 in
theorem r4a (s : ByteArray) (p : Nat) (hs : (s.size : Int) ≤ 140737488355328) (hp : (p : Int) < (s.size : Int)) (h1 : 240 ≤ bt s p) (h2 : bt s p < 245) (e1 : (s.size : Int) ≤ ((p + 1 : Nat) : Int)) (w : World) : Calls Tryz.prog 52 #[.string s, .int .i64 p] w (RetR (-2, 1) w) := by
  have b0 := bt_get s p
  have r0 := bt_range s p
  generalize bt s p = x0 at *
  have k0 : bits .and .i64 x0 7 = x0 % 8 := i64_and7 r0.1 (by omega)
  go_enter Tryz.func52, Tryz.ntmps52
  go_wp2
  go_rounds 4
  go_ret2
  exact RetR.mk' ⟨rfl, rfl⟩
set_option maxHeartbeats 1600000 in
set_option maxRecDepth 100000 in
theorem r4b (s : ByteArray) (p : Nat) (hs : (s.size : Int) ≤ 140737488355328) (hp : (p : Int) < (s.size : Int)) (h1 : 240 ≤ bt s p) (h2 : bt s p < 245) (e1 : ((p + 1 : Nat) : Int) < (s.size : Int)) (g1 : ¬ bt s (p + 1) / 64 = 2) (w : World) : Calls Tryz.prog 52 #[.string s, .int .i64 p] w (RetR (-2, 1) w) := by
  have b0 := bt_get s p
  have r0 := bt_range s p
  have b1 := bt_get s (p + 1)
  have r1 := bt_range s (p + 1)
  generalize bt s p = x0 at *
  generalize bt s (p + 1) = x1 at *
  have k0 : bits .and .i64 x0 7 = x0 % 8 := i64_and7 r0.1 (by omega)
  obtain ⟨z, kz, zn⟩ : ∃ z, bits .and .u8 x1 192 = z ∧ (z != 128) = true := ⟨_, rfl, by rw [u8_and192 r1.1 (by omega)]; simp; omega⟩
  clear g1
  go_enter Tryz.func52, Tryz.ntmps52
  go_wp2
  go_rounds 4
  go_ret2
  exact RetR.mk' ⟨rfl, rfl⟩
set_option maxHeartbeats 1600000 in
set_option maxRecDepth 100000 in
theorem r4c (s : ByteArray) (p : Nat) (hs : (s.size : Int) ≤ 140737488355328) (hp : (p : Int) < (s.size : Int)) (h1 : 240 ≤ bt s p) (h2 : bt s p < 245) (e1 : ((p + 1 : Nat) : Int) < (s.size : Int)) (g1 : bt s (p + 1) / 64 = 2) (e2 : (s.size : Int) ≤ ((p + 2 : Nat) : Int)) (w : World) : Calls Tryz.prog 52 #[.string s, .int .i64 p] w (RetR (-2, 1) w) := by
  have b0 := bt_get s p
  have r0 := bt_range s p
  have b1 := bt_get s (p + 1)
  have r1 := bt_range s (p + 1)
  generalize bt s p = x0 at *
  generalize bt s (p + 1) = x1 at *
  have k0 : bits .and .i64 x0 7 = x0 % 8 := i64_and7 r0.1 (by omega)
  have k1 : bits .and .u8 x1 192 = 128 := by rw [u8_and192 r1.1 (by omega)]; omega
  have m1 : bits .and .u8 x1 63 = x1 % 64 := u8_and63 _ r1.1 (by omega)
  have y1 : ((x0 % 8) * 64 + x1 % 64) = ((x0 % 8) * 64 + x1 % 64) := rfl
  have o1 : bits .or .i64 ((x0 % 8) * 64) (x1 % 64) = (x0 % 8) * 64 + x1 % 64 := i64_or6 (by omega) (by omega) (by omega) (by omega) (by omega)
  clear y1
  clear g1
  go_enter Tryz.func52, Tryz.ntmps52
  go_wp2
  go_rounds 4
  go_ret2
  exact RetR.mk' ⟨rfl, rfl⟩
set_option maxHeartbeats 1600000 in
set_option maxRecDepth 100000 in
theorem r4d (s : ByteArray) (p : Nat) (hs : (s.size : Int) ≤ 140737488355328) (hp : (p : Int) < (s.size : Int)) (h1 : 240 ≤ bt s p) (h2 : bt s p < 245) (e1 : ((p + 1 : Nat) : Int) < (s.size : Int)) (g1 : bt s (p + 1) / 64 = 2) (e2 : ((p + 2 : Nat) : Int) < (s.size : Int)) (g2 : ¬ bt s (p + 2) / 64 = 2) (w : World) : Calls Tryz.prog 52 #[.string s, .int .i64 p] w (RetR (-2, 1) w) := by
  have b0 := bt_get s p
  have r0 := bt_range s p
  have b1 := bt_get s (p + 1)
  have r1 := bt_range s (p + 1)
  have b2 := bt_get s (p + 2)
  have r2 := bt_range s (p + 2)
  generalize bt s p = x0 at *
  generalize bt s (p + 1) = x1 at *
  generalize bt s (p + 2) = x2 at *
  have k0 : bits .and .i64 x0 7 = x0 % 8 := i64_and7 r0.1 (by omega)
  have k1 : bits .and .u8 x1 192 = 128 := by rw [u8_and192 r1.1 (by omega)]; omega
  have m1 : bits .and .u8 x1 63 = x1 % 64 := u8_and63 _ r1.1 (by omega)
  have y1 : ((x0 % 8) * 64 + x1 % 64) = ((x0 % 8) * 64 + x1 % 64) := rfl
  have o1 : bits .or .i64 ((x0 % 8) * 64) (x1 % 64) = (x0 % 8) * 64 + x1 % 64 := i64_or6 (by omega) (by omega) (by omega) (by omega) (by omega)
  clear y1
  obtain ⟨z, kz, zn⟩ : ∃ z, bits .and .u8 x2 192 = z ∧ (z != 128) = true := ⟨_, rfl, by rw [u8_and192 r2.1 (by omega)]; simp; omega⟩
  clear g1
  clear g2
  go_enter Tryz.func52, Tryz.ntmps52
  go_wp2
  go_rounds 4
  go_ret2
  exact RetR.mk' ⟨rfl, rfl⟩
set_option maxHeartbeats 1600000 in
set_option maxRecDepth 100000 in
theorem r4e (s : ByteArray) (p : Nat) (hs : (s.size : Int) ≤ 140737488355328) (hp : (p : Int) < (s.size : Int)) (h1 : 240 ≤ bt s p) (h2 : bt s p < 245) (e1 : ((p + 1 : Nat) : Int) < (s.size : Int)) (g1 : bt s (p + 1) / 64 = 2) (e2 : ((p + 2 : Nat) : Int) < (s.size : Int)) (g2 : bt s (p + 2) / 64 = 2) (e3 : (s.size : Int) ≤ ((p + 3 : Nat) : Int)) (w : World) : Calls Tryz.prog 52 #[.string s, .int .i64 p] w (RetR (-2, 1) w) := by
  have b0 := bt_get s p
  have r0 := bt_range s p
  have b1 := bt_get s (p + 1)
  have r1 := bt_range s (p + 1)
  have b2 := bt_get s (p + 2)
  have r2 := bt_range s (p + 2)
  generalize bt s p = x0 at *
  generalize bt s (p + 1) = x1 at *
  generalize bt s (p + 2) = x2 at *
  have k0 : bits .and .i64 x0 7 = x0 % 8 := i64_and7 r0.1 (by omega)
  have k1 : bits .and .u8 x1 192 = 128 := by rw [u8_and192 r1.1 (by omega)]; omega
  have m1 : bits .and .u8 x1 63 = x1 % 64 := u8_and63 _ r1.1 (by omega)
  have y1 : ((x0 % 8) * 64 + x1 % 64) = ((x0 % 8) * 64 + x1 % 64) := rfl
  have o1 : bits .or .i64 ((x0 % 8) * 64) (x1 % 64) = (x0 % 8) * 64 + x1 % 64 := i64_or6 (by omega) (by omega) (by omega) (by omega) (by omega)
  clear y1
  have k2 : bits .and .u8 x2 192 = 128 := by rw [u8_and192 r2.1 (by omega)]; omega
  have m2 : bits .and .u8 x2 63 = x2 % 64 := u8_and63 _ r2.1 (by omega)
  have y2 : (((x0 % 8) * 64 + x1 % 64) * 64 + x2 % 64) = (((x0 % 8) * 64 + x1 % 64) * 64 + x2 % 64) := rfl
  have o2 : bits .or .i64 (((x0 % 8) * 64 + x1 % 64) * 64) (x2 % 64) = ((x0 % 8) * 64 + x1 % 64) * 64 + x2 % 64 := i64_or6 (by omega) (by omega) (by omega) (by omega) (by omega)
  clear y2
  clear g1
  clear g2
  go_enter Tryz.func52, Tryz.ntmps52
  go_wp2
  go_rounds 4
  go_ret2
  exact RetR.mk' ⟨rfl, rfl⟩
set_option maxHeartbeats 1600000 in
set_option maxRecDepth 100000 in
theorem r4f (s : ByteArray) (p : Nat) (hs : (s.size : Int) ≤ 140737488355328) (hp : (p : Int) < (s.size : Int)) (h1 : 240 ≤ bt s p) (h2 : bt s p < 245) (e1 : ((p + 1 : Nat) : Int) < (s.size : Int)) (g1 : bt s (p + 1) / 64 = 2) (e2 : ((p + 2 : Nat) : Int) < (s.size : Int)) (g2 : bt s (p + 2) / 64 = 2) (e3 : ((p + 3 : Nat) : Int) < (s.size : Int)) (g3 : ¬ bt s (p + 3) / 64 = 2) (w : World) : Calls Tryz.prog 52 #[.string s, .int .i64 p] w (RetR (-2, 1) w) := by
  have b0 := bt_get s p
  have r0 := bt_range s p
  have b1 := bt_get s (p + 1)
  have r1 := bt_range s (p + 1)
  have b2 := bt_get s (p + 2)
  have r2 := bt_range s (p + 2)
  have b3 := bt_get s (p + 3)
  have r3 := bt_range s (p + 3)
  generalize bt s p = x0 at *
  generalize bt s (p + 1) = x1 at *
  generalize bt s (p + 2) = x2 at *
  generalize bt s (p + 3) = x3 at *
  have k0 : bits .and .i64 x0 7 = x0 % 8 := i64_and7 r0.1 (by omega)
  have k1 : bits .and .u8 x1 192 = 128 := by rw [u8_and192 r1.1 (by omega)]; omega
  have m1 : bits .and .u8 x1 63 = x1 % 64 := u8_and63 _ r1.1 (by omega)
  have y1 : ((x0 % 8) * 64 + x1 % 64) = ((x0 % 8) * 64 + x1 % 64) := rfl
  have o1 : bits .or .i64 ((x0 % 8) * 64) (x1 % 64) = (x0 % 8) * 64 + x1 % 64 := i64_or6 (by omega) (by omega) (by omega) (by omega) (by omega)
  clear y1
  have k2 : bits .and .u8 x2 192 = 128 := by rw [u8_and192 r2.1 (by omega)]; omega
  have m2 : bits .and .u8 x2 63 = x2 % 64 := u8_and63 _ r2.1 (by omega)
  have y2 : (((x0 % 8) * 64 + x1 % 64) * 64 + x2 % 64) = (((x0 % 8) * 64 + x1 % 64) * 64 + x2 % 64) := rfl
  have o2 : bits .or .i64 (((x0 % 8) * 64 + x1 % 64) * 64) (x2 % 64) = ((x0 % 8) * 64 + x1 % 64) * 64 + x2 % 64 := i64_or6 (by omega) (by omega) (by omega) (by omega) (by omega)
  clear y2
  obtain ⟨z, kz, zn⟩ : ∃ z, bits .and .u8 x3 192 = z ∧ (z != 128) = true := ⟨_, rfl, by rw [u8_and192 r3.1 (by omega)]; simp; omega⟩
  clear g1
  clear g2
  clear g3
  go_enter Tryz.func52, Tryz.ntmps52
  go_wp2
  go_rounds 4
  go_ret2
  exact RetR.mk' ⟨rfl, rfl⟩
set_option maxHeartbeats 1600000 in
set_option maxRecDepth 100000 in
theorem r4g (s : ByteArray) (p : Nat) (hs : (s.size : Int) ≤ 140737488355328) (hp : (p : Int) < (s.size : Int)) (h1 : 240 ≤ bt s p) (h2 : bt s p < 245) (e1 : ((p + 1 : Nat) : Int) < (s.size : Int)) (g1 : bt s (p + 1) / 64 = 2) (e2 : ((p + 2 : Nat) : Int) < (s.size : Int)) (g2 : bt s (p + 2) / 64 = 2) (e3 : ((p + 3 : Nat) : Int) < (s.size : Int)) (g3 : bt s (p + 3) / 64 = 2) (hc : ((((bt s p % 8) * 64 + bt s (p + 1) % 64) * 64 + bt s (p + 2) % 64) * 64 + bt s (p + 3) % 64) < 65536) (w : World) : Calls Tryz.prog 52 #[.string s, .int .i64 p] w (RetR (-2, 1) w) := by
  have b0 := bt_get s p
  have r0 := bt_range s p
  have b1 := bt_get s (p + 1)
  have r1 := bt_range s (p + 1)
  have b2 := bt_get s (p + 2)
  have r2 := bt_range s (p + 2)
  have b3 := bt_get s (p + 3)
  have r3 := bt_range s (p + 3)
  generalize bt s p = x0 at *
  generalize bt s (p + 1) = x1 at *
  generalize bt s (p + 2) = x2 at *
  generalize bt s (p + 3) = x3 at *
  have k0 : bits .and .i64 x0 7 = x0 % 8 := i64_and7 r0.1 (by omega)
  have k1 : bits .and .u8 x1 192 = 128 := by rw [u8_and192 r1.1 (by omega)]; omega
  have m1 : bits .and .u8 x1 63 = x1 % 64 := u8_and63 _ r1.1 (by omega)
  have y1 : ((x0 % 8) * 64 + x1 % 64) = ((x0 % 8) * 64 + x1 % 64) := rfl
  have o1 : bits .or .i64 ((x0 % 8) * 64) (x1 % 64) = (x0 % 8) * 64 + x1 % 64 := i64_or6 (by omega) (by omega) (by omega) (by omega) (by omega)
  clear y1
  have k2 : bits .and .u8 x2 192 = 128 := by rw [u8_and192 r2.1 (by omega)]; omega
  have m2 : bits .and .u8 x2 63 = x2 % 64 := u8_and63 _ r2.1 (by omega)
  have y2 : (((x0 % 8) * 64 + x1 % 64) * 64 + x2 % 64) = (((x0 % 8) * 64 + x1 % 64) * 64 + x2 % 64) := rfl
  have o2 : bits .or .i64 (((x0 % 8) * 64 + x1 % 64) * 64) (x2 % 64) = ((x0 % 8) * 64 + x1 % 64) * 64 + x2 % 64 := i64_or6 (by omega) (by omega) (by omega) (by omega) (by omega)
  clear y2
  have k3 : bits .and .u8 x3 192 = 128 := by rw [u8_and192 r3.1 (by omega)]; omega
  have m3 : bits .and .u8 x3 63 = x3 % 64 := u8_and63 _ r3.1 (by omega)
  have y3 : ((((x0 % 8) * 64 + x1 % 64) * 64 + x2 % 64) * 64 + x3 % 64) = ((((x0 % 8) * 64 + x1 % 64) * 64 + x2 % 64) * 64 + x3 % 64) := rfl
  have o3 : bits .or .i64 ((((x0 % 8) * 64 + x1 % 64) * 64 + x2 % 64) * 64) (x3 % 64) = (((x0 % 8) * 64 + x1 % 64) * 64 + x2 % 64) * 64 + x3 % 64 := i64_or6 (by omega) (by omega) (by omega) (by omega) (by omega)
  clear y3
  clear g1
  clear g2
  clear g3
  go_enter Tryz.func52, Tryz.ntmps52
  go_wp2
  go_rounds 4
  go_ret2
  exact RetR.mk' ⟨rfl, rfl⟩
set_option maxHeartbeats 1600000 in
set_option maxRecDepth 100000 in
theorem r4h (s : ByteArray) (p : Nat) (hs : (s.size : Int) ≤ 140737488355328) (hp : (p : Int) < (s.size : Int)) (h1 : 240 ≤ bt s p) (h2 : bt s p < 245) (e1 : ((p + 1 : Nat) : Int) < (s.size : Int)) (g1 : bt s (p + 1) / 64 = 2) (e2 : ((p + 2 : Nat) : Int) < (s.size : Int)) (g2 : bt s (p + 2) / 64 = 2) (e3 : ((p + 3 : Nat) : Int) < (s.size : Int)) (g3 : bt s (p + 3) / 64 = 2) (hc : 1114111 < ((((bt s p % 8) * 64 + bt s (p + 1) % 64) * 64 + bt s (p + 2) % 64) * 64 + bt s (p + 3) % 64)) (w : World) : Calls Tryz.prog 52 #[.string s, .int .i64 p] w (RetR (-2, 1) w) := by
  have b0 := bt_get s p
  have r0 := bt_range s p
  have b1 := bt_get s (p + 1)
  have r1 := bt_range s (p + 1)
  have b2 := bt_get s (p + 2)
  have r2 := bt_range s (p + 2)
  have b3 := bt_get s (p + 3)
  have r3 := bt_range s (p + 3)
  generalize bt s p = x0 at *
  generalize bt s (p + 1) = x1 at *
  generalize bt s (p + 2) = x2 at *
  generalize bt s (p + 3) = x3 at *
  have k0 : bits .and .i64 x0 7 = x0 % 8 := i64_and7 r0.1 (by omega)
  have k1 : bits .and .u8 x1 192 = 128 := by rw [u8_and192 r1.1 (by omega)]; omega
  have m1 : bits .and .u8 x1 63 = x1 % 64 := u8_and63 _ r1.1 (by omega)
  have y1 : ((x0 % 8) * 64 + x1 % 64) = ((x0 % 8) * 64 + x1 % 64) := rfl
  have o1 : bits .or .i64 ((x0 % 8) * 64) (x1 % 64) = (x0 % 8) * 64 + x1 % 64 := i64_or6 (by omega) (by omega) (by omega) (by omega) (by omega)
  clear y1
  have k2 : bits .and .u8 x2 192 = 128 := by rw [u8_and192 r2.1 (by omega)]; omega
  have m2 : bits .and .u8 x2 63 = x2 % 64 := u8_and63 _ r2.1 (by omega)
  have y2 : (((x0 % 8) * 64 + x1 % 64) * 64 + x2 % 64) = (((x0 % 8) * 64 + x1 % 64) * 64 + x2 % 64) := rfl
  have o2 : bits .or .i64 (((x0 % 8) * 64 + x1 % 64) * 64) (x2 % 64) = ((x0 % 8) * 64 + x1 % 64) * 64 + x2 % 64 := i64_or6 (by omega) (by omega) (by omega) (by omega) (by omega)
  clear y2
  have k3 : bits .and .u8 x3 192 = 128 := by rw [u8_and192 r3.1 (by omega)]; omega
  have m3 : bits .and .u8 x3 63 = x3 % 64 := u8_and63 _ r3.1 (by omega)
  have y3 : ((((x0 % 8) * 64 + x1 % 64) * 64 + x2 % 64) * 64 + x3 % 64) = ((((x0 % 8) * 64 + x1 % 64) * 64 + x2 % 64) * 64 + x3 % 64) := rfl
  have o3 : bits .or .i64 ((((x0 % 8) * 64 + x1 % 64) * 64 + x2 % 64) * 64) (x3 % 64) = (((x0 % 8) * 64 + x1 % 64) * 64 + x2 % 64) * 64 + x3 % 64 := i64_or6 (by omega) (by omega) (by omega) (by omega) (by omega)
  clear y3
  clear g1
  clear g2
  clear g3
  go_enter Tryz.func52, Tryz.ntmps52
  go_wp2
  go_rounds 4
  go_ret2
  exact RetR.mk' ⟨rfl, rfl⟩
set_option maxHeartbeats 1600000 in
set_option maxRecDepth 100000 in
theorem r4i (s : ByteArray) (p : Nat) (hs : (s.size : Int) ≤ 140737488355328) (hp : (p : Int) < (s.size : Int)) (h1 : 240 ≤ bt s p) (h2 : bt s p < 245) (e1 : ((p + 1 : Nat) : Int) < (s.size : Int)) (g1 : bt s (p + 1) / 64 = 2) (e2 : ((p + 2 : Nat) : Int) < (s.size : Int)) (g2 : bt s (p + 2) / 64 = 2) (e3 : ((p + 3 : Nat) : Int) < (s.size : Int)) (g3 : bt s (p + 3) / 64 = 2) (hc : 65536 ≤ ((((bt s p % 8) * 64 + bt s (p + 1) % 64) * 64 + bt s (p + 2) % 64) * 64 + bt s (p + 3) % 64)) (hc2 : ((((bt s p % 8) * 64 + bt s (p + 1) % 64) * 64 + bt s (p + 2) % 64) * 64 + bt s (p + 3) % 64) ≤ 1114111) (hc3 : ((((bt s p % 8) * 64 + bt s (p + 1) % 64) * 64 + bt s (p + 2) % 64) * 64 + bt s (p + 3) % 64) < 55296 ∨ 57344 ≤ ((((bt s p % 8) * 64 + bt s (p + 1) % 64) * 64 + bt s (p + 2) % 64) * 64 + bt s (p + 3) % 64)) (w : World) : Calls Tryz.prog 52 #[.string s, .int .i64 p] w (RetR (((((bt s p % 8) * 64 + bt s (p + 1) % 64) * 64 + bt s (p + 2) % 64) * 64 + bt s (p + 3) % 64), 4) w) := by
  have b0 := bt_get s p
  have r0 := bt_range s p
  have b1 := bt_get s (p + 1)
  have r1 := bt_range s (p + 1)
  have b2 := bt_get s (p + 2)
  have r2 := bt_range s (p + 2)
  have b3 := bt_get s (p + 3)
  have r3 := bt_range s (p + 3)
  generalize bt s p = x0 at *
  generalize bt s (p + 1) = x1 at *
  generalize bt s (p + 2) = x2 at *
  generalize bt s (p + 3) = x3 at *
  have k0 : bits .and .i64 x0 7 = x0 % 8 := i64_and7 r0.1 (by omega)
  have k1 : bits .and .u8 x1 192 = 128 := by rw [u8_and192 r1.1 (by omega)]; omega
  have m1 : bits .and .u8 x1 63 = x1 % 64 := u8_and63 _ r1.1 (by omega)
  have y1 : ((x0 % 8) * 64 + x1 % 64) = ((x0 % 8) * 64 + x1 % 64) := rfl
  have o1 : bits .or .i64 ((x0 % 8) * 64) (x1 % 64) = (x0 % 8) * 64 + x1 % 64 := i64_or6 (by omega) (by omega) (by omega) (by omega) (by omega)
  clear y1
  have k2 : bits .and .u8 x2 192 = 128 := by rw [u8_and192 r2.1 (by omega)]; omega
  have m2 : bits .and .u8 x2 63 = x2 % 64 := u8_and63 _ r2.1 (by omega)
  have y2 : (((x0 % 8) * 64 + x1 % 64) * 64 + x2 % 64) = (((x0 % 8) * 64 + x1 % 64) * 64 + x2 % 64) := rfl
  have o2 : bits .or .i64 (((x0 % 8) * 64 + x1 % 64) * 64) (x2 % 64) = ((x0 % 8) * 64 + x1 % 64) * 64 + x2 % 64 := i64_or6 (by omega) (by omega) (by omega) (by omega) (by omega)
  clear y2
  have k3 : bits .and .u8 x3 192 = 128 := by rw [u8_and192 r3.1 (by omega)]; omega
  have m3 : bits .and .u8 x3 63 = x3 % 64 := u8_and63 _ r3.1 (by omega)
  have y3 : ((((x0 % 8) * 64 + x1 % 64) * 64 + x2 % 64) * 64 + x3 % 64) = ((((x0 % 8) * 64 + x1 % 64) * 64 + x2 % 64) * 64 + x3 % 64) := rfl
  have o3 : bits .or .i64 ((((x0 % 8) * 64 + x1 % 64) * 64 + x2 % 64) * 64) (x3 % 64) = (((x0 % 8) * 64 + x1 % 64) * 64 + x2 % 64) * 64 + x3 % 64 := i64_or6 (by omega) (by omega) (by omega) (by omega) (by omega)
  clear y3
  clear g1
  clear g2
  clear g3
  have hc3 : 57344 ≤ ((((x0 % 8) * 64 + x1 % 64) * 64 + x2 % 64) * 64 + x3 % 64) := by omega
  all_goals
    go_enter Tryz.func52, Tryz.ntmps52
    go_wp2
    go_rounds 4
    go_ret2
    exact RetR.mk' ⟨rfl, rfl⟩
end Go.Proofs.YtkfdcbdlcipmfaaGreatFmt
/- Walks: the reference's decoding of one code point, all of it. -/
set_option linter.unusedVariables false
set_option linter.unusedSimpArgs false
namespace Go.Proofs.YtkfdcbdlcipmfaaGreatFmt
open Go.RowKit Css
set_option maxHeartbeats 400000 in
set_option maxRecDepth 100000 in
theorem r0 (s : ByteArray) (p : Nat) (hs : (s.size : Int) ≤ 140737488355328) (hp : (s.size : Int) ≤ (p : Int)) (w : World) : Calls Tryz.prog 52 #[.string s, .int .i64 p] w (RetR (-1, 0) w) := by
  go_enter Tryz.func52, Tryz.ntmps52
  go_wp2
  go_ret2
  exact RetR.mk' ⟨rfl, rfl⟩
set_option maxHeartbeats 400000 in
set_option maxRecDepth 100000 in
theorem r1 (s : ByteArray) (p : Nat) (hs : (s.size : Int) ≤ 140737488355328) (hp : (p : Int) < (s.size : Int)) (h : bt s p < 128) (w : World) : Calls Tryz.prog 52 #[.string s, .int .i64 p] w (RetR (bt s p, 1) w) := by
  have b0 := bt_get s p
  have r0 := bt_range s p
  generalize bt s p = x0 at *
  go_enter Tryz.func52, Tryz.ntmps52
  go_wp2
  go_ret2
  exact RetR.mk' ⟨rfl, rfl⟩
set_option maxHeartbeats 400000 in
set_option maxRecDepth 100000 in
theorem r1b (s : ByteArray) (p : Nat) (hs : (s.size : Int) ≤ 140737488355328) (hp : (p : Int) < (s.size : Int)) (h : 128 ≤ bt s p) (h2 : bt s p < 194 ∨ 245 ≤ bt s p) (w : World) : Calls Tryz.prog 52 #[.string s, .int .i64 p] w (RetR (-2, 1) w) := by
  have b0 := bt_get s p
  have r0 := bt_range s p
  generalize bt s p = x0 at *
  rcases h2 with h2 | h2
  all_goals
    go_enter Tryz.func52, Tryz.ntmps52
    go_wp2
    go_ret2
    exact RetR.mk' ⟨rfl, rfl⟩
/-- DECODING ONE CODE POINT. -/
theorem rune_any (s : ByteArray) (p : Nat) (hs : (s.size : Int) ≤ 140737488355328) (w : World) : Calls Tryz.prog 52 #[.string s, .int .i64 p] w (RetR (runeQ s p) w) := by
  by_cases hp : s.size ≤ p
  · rw [runeQ_end s p hp]; exact r0 s p hs (by omega) w
  have hp2 : p < s.size := by omega
  have hpi : (p : Int) < (s.size : Int) := by omega
  have hr := bt_range s p
  by_cases h1 : bt s p < 128
  · rw [runeQ_low s p hp2 h1]; exact r1 s p hs hpi h1 w
  by_cases h2 : bt s p < 194 ∨ 245 ≤ bt s p
  · rw [runeQ_bad s p hp2 (by omega) h2]; exact r1b s p hs hpi (by omega) h2 w
  have q1 := bt_range s (p + 1)
  have q2 := bt_range s (p + 2)
  have q3 := bt_range s (p + 3)
  by_cases c2 : bt s p < 224
  · rw [runeQ_2 s p hp2 (by omega) c2]
    by_cases e1 : p + 1 < s.size
    · by_cases g1 : bt s (p + 1) / 64 = 2
      · rw [if_pos ⟨e1, g1⟩]
        unfold chk
        rw [if_neg (by omega)]
        exact r2c s p hs hpi (by omega) c2 (by omega) g1 (by omega) (by omega) (by omega) w
      · rw [if_neg (by omega)]
        exact r2b s p hs hpi (by omega) c2 (by omega) g1 w
    · rw [if_neg (by omega)]
      exact r2a s p hs hpi (by omega) c2 (by omega) w
  by_cases c3 : bt s p < 240
  · rw [runeQ_3 s p hp2 (by omega) c3]
    by_cases e1 : p + 1 < s.size
    · by_cases g1 : bt s (p + 1) / 64 = 2
      · by_cases e2 : p + 2 < s.size
        · by_cases g2 : bt s (p + 2) / 64 = 2
          · rw [if_pos ⟨⟨e1, g1⟩, e2, g2⟩]
            unfold chk
            by_cases k1 : ((bt s p % 16) * 64 + bt s (p + 1) % 64) * 64 + bt s (p + 2) % 64 < 2048
            · rw [if_pos (by omega)]
              exact r3e s p hs hpi (by omega) c3 (by omega) g1 (by omega) g2 k1 w
            · by_cases k2 : 55296 ≤ ((bt s p % 16) * 64 + bt s (p + 1) % 64) * 64 + bt s (p + 2) % 64 ∧ ((bt s p % 16) * 64 + bt s (p + 1) % 64) * 64 + bt s (p + 2) % 64 < 57344
              · rw [if_pos (by omega)]
                exact r3f s p hs hpi (by omega) c3 (by omega) g1 (by omega) g2 k2.1 k2.2 w
              · rw [if_neg (by omega)]
                exact r3g s p hs hpi (by omega) c3 (by omega) g1 (by omega) g2 (by omega) (by omega) (by omega) w
          · rw [if_neg (by omega)]
            exact r3d s p hs hpi (by omega) c3 (by omega) g1 (by omega) g2 w
        · rw [if_neg (by omega)]
          exact r3c s p hs hpi (by omega) c3 (by omega) g1 (by omega) w
      · rw [if_neg (by omega)]
        exact r3b s p hs hpi (by omega) c3 (by omega) g1 w
    · rw [if_neg (by omega)]
      exact r3a s p hs hpi (by omega) c3 (by omega) w
  rw [runeQ_4 s p hp2 (by omega) (by omega)]
  by_cases e1 : p + 1 < s.size
  · by_cases g1 : bt s (p + 1) / 64 = 2
    · by_cases e2 : p + 2 < s.size
      · by_cases g2 : bt s (p + 2) / 64 = 2
        · by_cases e3 : p + 3 < s.size
          · by_cases g3 : bt s (p + 3) / 64 = 2
            · rw [if_pos ⟨⟨e1, g1⟩, ⟨e2, g2⟩, e3, g3⟩]
              unfold chk
              by_cases k1 : (((bt s p % 8) * 64 + bt s (p + 1) % 64) * 64 + bt s (p + 2) % 64) * 64 + bt s (p + 3) % 64 < 65536
              · rw [if_pos (by omega)]
                exact r4g s p hs hpi (by omega) (by omega) (by omega) g1 (by omega) g2 (by omega) g3 k1 w
              · by_cases k2 : 1114111 < (((bt s p % 8) * 64 + bt s (p + 1) % 64) * 64 + bt s (p + 2) % 64) * 64 + bt s (p + 3) % 64
                · rw [if_pos (by omega)]
                  exact r4h s p hs hpi (by omega) (by omega) (by omega) g1 (by omega) g2 (by omega) g3 k2 w
                · rw [if_neg (by omega)]
                  exact r4i s p hs hpi (by omega) (by omega) (by omega) g1 (by omega) g2 (by omega) g3 (by omega) (by omega) (by omega) w
            · rw [if_neg (by omega)]
              exact r4f s p hs hpi (by omega) (by omega) (by omega) g1 (by omega) g2 (by omega) g3 w
          · rw [if_neg (by omega)]
            exact r4e s p hs hpi (by omega) (by omega) (by omega) g1 (by omega) g2 (by omega) w
        · rw [if_neg (by omega)]
          exact r4d s p hs hpi (by omega) (by omega) (by omega) g1 (by omega) g2 w
      · rw [if_neg (by omega)]
        exact r4c s p hs hpi (by omega) (by omega) (by omega) g1 (by omega) w
    · rw [if_neg (by omega)]
      exact r4b s p hs hpi (by omega) (by omega) (by omega) g1 w
  · rw [if_neg (by omega)]
    exact r4a s p hs hpi (by omega) (by omega) (by omega) w
end Go.Proofs.YtkfdcbdlcipmfaaGreatFmt
/- Walks: the reference's lexer in memory: peek, take. -/
set_option linter.unusedVariables false
set_option linter.unusedSimpArgs false
namespace Go.Proofs.YtkfdcbdlcipmfaaGreatFmt
open Go.RowKit Css

/-- Of what was there: all but block b as it was. -/
structure Lk (b : Nat) (w w' : World) : Prop where
  os : w'.os = w.os
  tape : w'.tape = w.tape
  output : w'.output = w.output
  size : w.heap.size ≤ w'.heap.size
  block : ∀ i, i < w.heap.size → i ≠ b → w'.heap[i]? = w.heap[i]?
theorem Lk.refl (b : Nat) (w : World) : Lk b w w := ⟨rfl, rfl, rfl, Nat.le_refl _, fun _ _ _ => rfl⟩
theorem Lk.trans {b : Nat} {u v w : World} (h : Lk b u v) (k : Lk b v w) : Lk b u w :=
  ⟨k.os.trans h.os, k.tape.trans h.tape, k.output.trans h.output, Nat.le_trans h.size k.size, fun i hi hb => (k.block i (Nat.lt_of_lt_of_le hi h.size) hb).trans (h.block i hi hb)⟩
theorem Lk.drew {b : Nat} {a w : World} (h : Lk b a w) : Lk b a w.drew := ⟨h.os, h.tape, h.output, h.size, h.block⟩
theorem Lk.drewN {b : Nat} {a w : World} (h : Lk b a w) (n : Nat) : Lk b a (w.drewN n) := ⟨h.os, h.tape, h.output, h.size, h.block⟩
theorem Lk.set_ {b : Nat} {a w : World} (h : Lk b a w) (o : Nat) (u : Value) : Lk b a (w.setCell ⟨b, o, none⟩ u) :=
  h.trans ⟨rfl, rfl, rfl, by simp [World.setCell], fun i hi hb => Below.heap_setCell _ _ _ _ (by simpa using hb)⟩
theorem Lk.of_below {b : Nat} {w w' : World} (h : Below w.heap.size w w') : Lk b w w' := ⟨h.os, h.tape, h.output, h.size, fun i hi _ => h.block i hi⟩
theorem Lk.below {b B : Nat} {a w w' : World} (h : Lk b w w') (hb : B ≤ b) (ha : Below B a w) (hB : B ≤ w.heap.size) : Below B a w' :=
  ha.trans ⟨h.os, h.tape, h.output, h.size, fun i hi => h.block i (by omega) (by omega)⟩

/-- THE LEXER IN MEMORY: what is left of its text; its comments; whether it is open. -/
structure LX (b : Nat) (s : ByteArray) (ds : List Int) (cv : Value) (op : Bool) (w : World) : Prop where
  blk : ∃ T, w.heap[b]? = some (.cells #[.string s, .int .i64 (pos s ds : Nat), cv, .bool op] T (0, 0))
  suf : Suf s ds
  small : (s.size : Int) ≤ 140737488355328
section
variable {b : Nat} {s : ByteArray} {ds : List Int} {cv : Value} {op : Bool} {w w' : World}
theorem cell_blk {b : Nat} {cs : Array Value} {T : TypeId} (h : w.heap[b]? = some (.cells cs T (0, 0))) (i : Nat) : w.cell? ⟨b, i, none⟩ = cs[i]? := cell_of_row w b i cs T (0, 0) h
theorem frozen_blk {b : Nat} {cs : Array Value} {T : TypeId} (h : w.heap[b]? = some (.cells cs T (0, 0))) (i : Nat) : w.frozen? ⟨b, i, none⟩ = false := by simp [World.frozen?, h]
theorem LX.c0 (h : LX b s ds cv op w) : w.cell? ⟨b, 0, none⟩ = some (.string s) := by obtain ⟨T, hb⟩ := h.blk; exact cell_blk hb 0
theorem LX.c1 (h : LX b s ds cv op w) : w.cell? ⟨b, 1, none⟩ = some (.int .i64 (pos s ds : Nat)) := by obtain ⟨T, hb⟩ := h.blk; exact cell_blk hb 1
theorem LX.c2 (h : LX b s ds cv op w) : w.cell? ⟨b, 2, none⟩ = some cv := by obtain ⟨T, hb⟩ := h.blk; exact cell_blk hb 2
theorem LX.c3 (h : LX b s ds cv op w) : w.cell? ⟨b, 3, none⟩ = some (.bool op) := by obtain ⟨T, hb⟩ := h.blk; exact cell_blk hb 3
theorem LX.f (h : LX b s ds cv op w) (i : Nat) : w.frozen? ⟨b, i, none⟩ = false := by obtain ⟨T, hb⟩ := h.blk; exact frozen_blk hb i
theorem LX.lt (h : LX b s ds cv op w) : b < w.heap.size := World.block_lt_of_cell? w _ h.c0
theorem LX.same (h : LX b s ds cv op w) (hb : w'.heap[b]? = w.heap[b]?) : LX b s ds cv op w' := ⟨by obtain ⟨T, e⟩ := h.blk; exact ⟨T, hb.trans e⟩, h.suf, h.small⟩
theorem LX.below (h : LX b s ds cv op w) (hb : Below w.heap.size w w') : LX b s ds cv op w' := h.same (hb.block b h.lt)
theorem LX.drew (h : LX b s ds cv op w) : LX b s ds cv op w.drew := ⟨h.blk, h.suf, h.small⟩
theorem LX.drewN (h : LX b s ds cv op w) (n : Nat) : LX b s ds cv op (w.drewN n) := ⟨h.blk, h.suf, h.small⟩
theorem LX.alloc (h : LX b s ds cv op w) (o : Obj) : LX b s ds cv op (w.alloc o) := h.below ((Below.refl _ _).alloc (Nat.le_refl _) o)
theorem heap_set_same {b : Nat} {cs : Array Value} {T : TypeId} (h : w.heap[b]? = some (.cells cs T (0, 0))) (i : Nat) (u : Value) : (w.setCell ⟨b, i, none⟩ u).heap[b]? = some (.cells (cs.setIfInBounds i u) T (0, 0)) := by
  simp [World.setCell, Array.getElem?_modify, h]
theorem LX.setAt (h : LX b s ds cv op w) {ds' : List Int} (hs : Suf s ds') {v : Value} (hv : v = .int .i64 (pos s ds' : Nat)) : LX b s ds' cv op (w.setCell ⟨b, 1, none⟩ v) := by
  obtain ⟨T, hb⟩ := h.blk
  subst hv
  exact ⟨⟨T, heap_set_same hb 1 _⟩, hs, h.small⟩
theorem LX.setOpen (h : LX b s ds cv op w) (op' : Bool) : LX b s ds cv op' (w.setCell ⟨b, 3, none⟩ (.bool op')) := by
  obtain ⟨T, hb⟩ := h.blk
  exact ⟨⟨T, heap_set_same hb 3 _⟩, h.suf, h.small⟩
theorem LX.setCom (h : LX b s ds cv op w) (cv' : Value) : LX b s ds cv' op (w.setCell ⟨b, 2, none⟩ cv') := by
  obtain ⟨T, hb⟩ := h.blk
  exact ⟨⟨T, heap_set_same hb 2 _⟩, h.suf, h.small⟩
end
theorem suf_drop {s : ByteArray} {ds : List Int} (h : Suf s ds) (k : Nat) : Suf s (ds.drop k) := by
  induction k generalizing ds with
  | zero => exact h
  | succ k ih =>
    have := ih h.tail
    cases ds with
    | nil => simpa using this
    | cons c t => simpa using this
theorem rune_suf {s : ByteArray} {ds : List Int} (h : Suf s ds) : (runeQ s (pos s ds)).1 = pk ds 0 ∧ pos s ds + (runeQ s (pos s ds)).2 = pos s ds.tail := ⟨h.rune.1, h.rune.2.symm⟩

theorem quiet_eq {P : Program} {f : FuncId} {args : Array Value} {w : World} {n : Nat} {v : Value}
    (h : Calls P f args (w.drewN n) fun e w' => e = .returned v ∧ w.drewN n = w') : Calls P f args (w.drewN n) fun e w'' => e = .returned v ∧ ∃ m, w'' = w.drewN m :=
  h.mono fun _ _ ⟨he, hm⟩ => ⟨he, n, hm.symm⟩
/-- What moves a lexer on. -/
structure To (b : Nat) (s : ByteArray) (ds : List Int) (cv : Value) (op : Bool) (w w' : World) : Prop where
  lx : LX b s ds cv op w'
  lk : Lk b w w'

set_option maxHeartbeats 800000 in
set_option maxRecDepth 100000 in
theorem take_any {b : Nat} {s : ByteArray} {ds : List Int} {cv : Value} {op : Bool} {w : World} (h : LX b s ds cv op w) :
    Calls Tryz.prog 61 #[.pointer (some ⟨b, 0, none⟩)] w fun e w' => e = .returned (.int .i64 (pk ds 0)) ∧ To b s ds.tail cv op w w' := by
  have HL := Lib.hid h
  have hc0 := h.c0
  have hc1 := h.c1
  have hf1 := h.f 1
  obtain ⟨e1, e2⟩ := rune_suf h.suf
  have E1 := Lib.hid e1
  have E2 := Lib.hid e2
  have hp1 : ((runeQ s (pos s ds)).2 : Int) ≤ 140737488355328 := by have := @pos_le s ds.tail; have := h.small; omega
  have hp2 : (pos s ds : Int) ≤ 140737488355328 := by have := @pos_le s ds; have := h.small; omega
  clear h e1 e2
  go_enter Tryz.func61, Tryz.ntmps61
  go_wp2_with fail
  go_quiet ((go_at_call 52; exact quiet_eq (rune_any _ _ HL.out.small _)))
  go_wp2
  go_ret
  refine ⟨by rw [← E1.out]; rfl, (HL.out.drewN _).setAt HL.out.suf.tail ?_, ((Lk.refl b w).drewN _).set_ _ _⟩
  rw [← E2.out]; rfl
/-- A value, and nothing but draws. -/
def Qt (v : Value) (w : World) (e : Ending) (w' : World) : Prop := e = .returned v ∧ ∃ m, w' = w.drewN m
set_option maxHeartbeats 800000 in
set_option maxRecDepth 100000 in
theorem peek_any {b : Nat} {s : ByteArray} {ds : List Int} {cv : Value} {op : Bool} {w : World} (h : LX b s ds cv op w) (k : Nat) (hk : (k : Int) ≤ 3) :
    Calls Tryz.prog 59 #[.pointer (some ⟨b, 0, none⟩), .int .i64 k] w (RetI (pk ds k) w) := by
  have HL := Lib.hid h
  have hc0 := h.c0
  have hc1 := h.c1
  clear h
  go_enter Tryz.func59, Tryz.ntmps59
  go_wp2_with fail
  go_loop [5, 15] (fun p5 p15 => ∃ j : Nat, (j : Int) ≤ (k : Int) ∧ p15 = .int .i64 j ∧ p5 = .int .i64 (pos s (ds.drop j) : Nat)) (fun _ p15 => k - (intOf p15).toNat)
  case atStart => exact ⟨0, by omega, rfl, rfl⟩
  case round =>
    obtain ⟨j, hj, rfl, rfl⟩ := hrel
    obtain ⟨e1, e2⟩ := rune_suf (suf_drop HL.out.suf j)
    have E1 := Lib.hid e1
    have E2 := Lib.hid e2
    have hp1 : ((runeQ s (pos s (ds.drop j))).2 : Int) ≤ 140737488355328 := by have := @pos_le s (ds.drop j).tail; have := HL.out.small; omega
    have hp2 : (pos s (ds.drop j) : Int) ≤ 140737488355328 := by have := @pos_le s (ds.drop j); have := HL.out.small; omega
    clear e1 e2
    by_cases hlt : (j : Int) < (k : Int)
    · go_wp2_with (go_at_call 52; go_must (refine (rune_any _ _ HL.out.small _).mono ?_; rintro e w' ⟨rfl, rfl⟩))
      go_round
      case rel =>
        refine ⟨j + 1, by omega, by go_num, ?_⟩
        have e : ds.drop (j + 1) = (ds.drop j).tail := by rw [List.tail_drop]
        rw [e, ← E2.out]; go_num
      case measure => simp [intOf]; omega
    · have hjk : j = k := by omega
      subst hjk
      go_wp2_with (go_at_call 52; go_must (refine (rune_any _ _ HL.out.small _).mono ?_; rintro e w' ⟨rfl, rfl⟩))
      go_ret
      refine RetI.mk' ?_
      rw [E1.out]; unfold pk; simp [List.getD_eq_getElem?_getD]
end Go.Proofs.YtkfdcbdlcipmfaaGreatFmt
