/- Walks: the reference's decoding of one code point (printed by genS2.py). -/
import Derived.Test.YtkfdcbdlcipmfaaGreatFmtH08
import Derived.Test.YtkfdcbdlcipmfaaGreatFmtH10
import Derived.Handy
set_option linter.unusedVariables false
set_option linter.unusedSimpArgs false
namespace Go.Proofs.YtkfdcbdlcipmfaaGreatFmt
open Go.RowKit Css
section
variable {x y : Int}
theorem wraps_i64 (n : Int) (h₀ : 0 ≤ n) (h₁ : n < 2 ^ 31) : IntKind.i64.wrap n = n := by rw [IntKind.wrap_i64]; omega
theorem i64_and31 (h₀ : 0 ≤ x) (h₁ : x < 256) : bits .and .i64 x 31 = x % 32 := bits_mask .i64 31 (by decide) wraps_i64 5 (by decide) x h₀ (by omega)
theorem i64_and15 (h₀ : 0 ≤ x) (h₁ : x < 256) : bits .and .i64 x 15 = x % 16 := bits_mask .i64 31 (by decide) wraps_i64 4 (by decide) x h₀ (by omega)
theorem i64_and7 (h₀ : 0 ≤ x) (h₁ : x < 256) : bits .and .i64 x 7 = x % 8 := bits_mask .i64 31 (by decide) wraps_i64 3 (by decide) x h₀ (by omega)
theorem i64_or6 (hx₀ : 0 ≤ x) (hx : x % 64 = 0) (hx₁ : x < 2147483648) (h₀ : 0 ≤ y) (h₁ : y < 64) : bits .or .i64 x y = x + y :=
  bits_join .i64 31 (by decide) wraps_i64 6 x y hx₀ hx hx₁ h₀ h₁ (by omega)
set_option maxRecDepth 100000 in
theorem and192 : ∀ a : Fin 256, a.val &&& 192 = a.val / 64 * 64 := by decide
theorem u8_and192 (h₀ : 0 ≤ x) (h₁ : x < 256) : bits .and .u8 x 192 = x / 64 * 64 := by
  obtain ⟨a, rfl⟩ := Int.eq_ofNat_of_zero_le h₀
  have ha : a < 2 ^ 8 := by omega
  have := (bits_nat .u8 8 (by decide) wraps_u8 a 192 ha (by decide)).1
  have h2 : a &&& 192 = a / 64 * 64 := and192 ⟨a, by omega⟩
  rw [show (192 : Int) = ((192 : Nat) : Int) from rfl, this, h2]
  omega
end
theorem drop_bt (s : ByteArray) (p : Nat) (hp : p < s.size) : ∃ x : UInt8, (x.toNat : Int) = bt s p ∧ s.data.toList.drop p = x :: s.data.toList.drop (p + 1) := by
  have h2 : p < s.data.toList.length := hp
  refine ⟨s.data.toList[p], ?_, List.drop_eq_getElem_cons h2⟩
  unfold bt
  rw [List.getD_eq_getElem?_getD, List.getElem?_eq_getElem h2]; rfl
def runeQ (s : ByteArray) (p : Nat) : Int × Nat := runeL (s.data.toList.drop p)
def chk (n : Nat) (low c : Int) : Int × Nat := if c < low ∨ c > 1114111 ∨ (55296 ≤ c ∧ c < 57344) then (-2, 1) else (c, n)
def RetR (r : Int × Nat) (w : World) (e : Ending) (w' : World) : Prop := e = .returned (.tuple #[.int .i64 r.1, .int .i64 (r.2 : Nat)]) ∧ w = w'
theorem RetR.mk' {r : Int × Nat} {a b : Int} {w : World} (h : r.1 = a ∧ (r.2 : Int) = b) : RetR r w (.returned (.tuple #[.int .i64 a, .int .i64 b])) w := ⟨by rw [h.1, h.2], rfl⟩
theorem contL_drop (s : ByteArray) (k p : Nat) (b : Int) : contL (k + 1) (s.data.toList.drop p) b = if p < s.size ∧ bt s p / 64 = 2 then contL k (s.data.toList.drop (p + 1)) (b * 64 + bt s p % 64) else none := by
  by_cases hp : p < s.size
  · obtain ⟨x, hx, hd⟩ := drop_bt s p hp
    rw [hd, contL_cons]
    by_cases h : x.toNat / 64 = 2
    · rw [if_pos h, if_pos ⟨hp, by omega⟩]; congr 2; omega
    · rw [if_neg h, if_neg (by omega)]
  · have : s.data.toList.drop p = [] := List.drop_eq_nil_of_le (by show s.size ≤ p; omega)
    rw [this, if_neg (by omega)]; rfl
theorem runeQ_end (s : ByteArray) (p : Nat) (hp : s.size ≤ p) : runeQ s p = (-1, 0) := by
  unfold runeQ; rw [List.drop_eq_nil_of_le (show s.data.toList.length ≤ p from hp)]; rfl
theorem runeQ_low (s : ByteArray) (p : Nat) (hp : p < s.size) (h : bt s p < 128) : runeQ s p = (bt s p, 1) := by
  obtain ⟨x, hx, hd⟩ := drop_bt s p hp
  unfold runeQ; rw [hd, runeL_cons, if_pos (by omega), hx]
theorem runeQ_bad (s : ByteArray) (p : Nat) (hp : p < s.size) (h : 128 ≤ bt s p) (h2 : bt s p < 194 ∨ 245 ≤ bt s p) : runeQ s p = (-2, 1) := by
  obtain ⟨x, hx, hd⟩ := drop_bt s p hp
  unfold runeQ; rw [hd, runeL_cons, if_neg (by omega), if_pos]
  unfold headL; rw [if_neg (by omega), if_neg (by omega), if_neg (by omega)]
theorem runeQ_2 (s : ByteArray) (p : Nat) (hp : p < s.size) (h1 : 194 ≤ bt s p) (h2 : bt s p < 224) : runeQ s p = if (p + 1 < s.size ∧ bt s (p + 1) / 64 = 2) then chk 2 128 ((bt s p % 32) * 64 + bt s (p + 1) % 64) else (-2, 1) := by
  obtain ⟨x, hx, hd⟩ := drop_bt s p hp
  have hh : headL x.toNat = (2, 128, bt s p % 32) := by
    unfold headL; rw [if_pos (by omega)]; congr 2; omega
  unfold runeQ; rw [hd, runeL_cons, if_neg (by omega), hh, if_neg (show ¬ ((2 : Nat) = 0) by decide)]
  show (match contL 1 (s.data.toList.drop (p + 1)) (bt s p % 32) with | none => (-2, 1) | some c => if c < 128 ∨ c > 1114111 ∨ (55296 ≤ c ∧ c < 57344) then (-2, 1) else (c, 2)) = _
  rw [contL_drop]
  by_cases g1 : p + 1 < s.size ∧ bt s (p + 1) / 64 = 2
  rotate_left
  · rw [if_neg g1, if_neg (by intro h; apply g1; first | exact h | exact h.1 | exact h.2 | exact h.2.1 | exact h.2.2)]
  rw [if_pos g1]
  rw [contL_zero, if_pos (g1)]
  rfl
theorem runeQ_3 (s : ByteArray) (p : Nat) (hp : p < s.size) (h1 : 224 ≤ bt s p) (h2 : bt s p < 240) : runeQ s p = if (p + 1 < s.size ∧ bt s (p + 1) / 64 = 2) ∧ (p + 2 < s.size ∧ bt s (p + 2) / 64 = 2) then chk 3 2048 (((bt s p % 16) * 64 + bt s (p + 1) % 64) * 64 + bt s (p + 2) % 64) else (-2, 1) := by
  obtain ⟨x, hx, hd⟩ := drop_bt s p hp
  have hh : headL x.toNat = (3, 2048, bt s p % 16) := by
    unfold headL; rw [if_neg (by omega), if_pos (by omega)]; congr 2; omega
  unfold runeQ; rw [hd, runeL_cons, if_neg (by omega), hh, if_neg (show ¬ ((3 : Nat) = 0) by decide)]
  show (match contL 2 (s.data.toList.drop (p + 1)) (bt s p % 16) with | none => (-2, 1) | some c => if c < 2048 ∨ c > 1114111 ∨ (55296 ≤ c ∧ c < 57344) then (-2, 1) else (c, 3)) = _
  rw [contL_drop]
  by_cases g1 : p + 1 < s.size ∧ bt s (p + 1) / 64 = 2
  rotate_left
  · rw [if_neg g1, if_neg (by intro h; apply g1; first | exact h | exact h.1 | exact h.2 | exact h.2.1 | exact h.2.2)]
  rw [if_pos g1]
  rw [contL_drop]
  by_cases g2 : p + 2 < s.size ∧ bt s (p + 2) / 64 = 2
  rotate_left
  · rw [if_neg g2, if_neg (by intro h; apply g2; first | exact h | exact h.1 | exact h.2 | exact h.2.1 | exact h.2.2)]
  rw [if_pos g2]
  rw [contL_zero, if_pos (⟨g1, g2⟩)]
  rfl
theorem runeQ_4 (s : ByteArray) (p : Nat) (hp : p < s.size) (h1 : 240 ≤ bt s p) (h2 : bt s p < 245) : runeQ s p = if (p + 1 < s.size ∧ bt s (p + 1) / 64 = 2) ∧ (p + 2 < s.size ∧ bt s (p + 2) / 64 = 2) ∧ (p + 3 < s.size ∧ bt s (p + 3) / 64 = 2) then chk 4 65536 ((((bt s p % 8) * 64 + bt s (p + 1) % 64) * 64 + bt s (p + 2) % 64) * 64 + bt s (p + 3) % 64) else (-2, 1) := by
  obtain ⟨x, hx, hd⟩ := drop_bt s p hp
  have hh : headL x.toNat = (4, 65536, bt s p % 8) := by
    unfold headL; rw [if_neg (by omega), if_neg (by omega), if_pos (by omega)]; congr 2; omega
  unfold runeQ; rw [hd, runeL_cons, if_neg (by omega), hh, if_neg (show ¬ ((4 : Nat) = 0) by decide)]
  show (match contL 3 (s.data.toList.drop (p + 1)) (bt s p % 8) with | none => (-2, 1) | some c => if c < 65536 ∨ c > 1114111 ∨ (55296 ≤ c ∧ c < 57344) then (-2, 1) else (c, 4)) = _
  rw [contL_drop]
  by_cases g1 : p + 1 < s.size ∧ bt s (p + 1) / 64 = 2
  rotate_left
  · rw [if_neg g1, if_neg (by intro h; apply g1; first | exact h | exact h.1 | exact h.2 | exact h.2.1 | exact h.2.2)]
  rw [if_pos g1]
  rw [contL_drop]
  by_cases g2 : p + 2 < s.size ∧ bt s (p + 2) / 64 = 2
  rotate_left
  · rw [if_neg g2, if_neg (by intro h; apply g2; first | exact h | exact h.1 | exact h.2 | exact h.2.1 | exact h.2.2)]
  rw [if_pos g2]
  rw [contL_drop]
  by_cases g3 : p + 3 < s.size ∧ bt s (p + 3) / 64 = 2
  rotate_left
  · rw [if_neg g3, if_neg (by intro h; apply g3; first | exact h | exact h.1 | exact h.2 | exact h.2.1 | exact h.2.2)]
  rw [if_pos g3]
  rw [contL_zero, if_pos (⟨g1, g2, g3⟩)]
  rfl
set_option maxHeartbeats 1600000 in
set_option maxRecDepth 100000 in
theorem r2a (s : ByteArray) (p : Nat) (hs : (s.size : Int) ≤ 140737488355328) (hp : (p : Int) < (s.size : Int)) (h1 : 194 ≤ bt s p) (h2 : bt s p < 224) (e1 : (s.size : Int) ≤ ((p + 1 : Nat) : Int)) (w : World) : Calls Tryz.prog 52 #[.string s, .int .i64 p] w (RetR (-2, 1) w) := by
  have b0 := bt_get s p
  have r0 := bt_range s p
  generalize bt s p = x0 at *
  have k0 : bits .and .i64 x0 31 = x0 % 32 := i64_and31 r0.1 (by omega)
  go_enter Tryz.func52, Tryz.ntmps52
  go_wp2
  go_rounds 4
  go_ret2
  exact RetR.mk' ⟨rfl, rfl⟩
set_option maxHeartbeats 1600000 in
set_option maxRecDepth 100000 in
theorem r2b (s : ByteArray) (p : Nat) (hs : (s.size : Int) ≤ 140737488355328) (hp : (p : Int) < (s.size : Int)) (h1 : 194 ≤ bt s p) (h2 : bt s p < 224) (e1 : ((p + 1 : Nat) : Int) < (s.size : Int)) (g1 : ¬ bt s (p + 1) / 64 = 2) (w : World) : Calls Tryz.prog 52 #[.string s, .int .i64 p] w (RetR (-2, 1) w) := by
  have b0 := bt_get s p
  have r0 := bt_range s p
  have b1 := bt_get s (p + 1)
  have r1 := bt_range s (p + 1)
  generalize bt s p = x0 at *
  generalize bt s (p + 1) = x1 at *
  have k0 : bits .and .i64 x0 31 = x0 % 32 := i64_and31 r0.1 (by omega)
  obtain ⟨z, kz, zn⟩ : ∃ z, bits .and .u8 x1 192 = z ∧ (z != 128) = true := ⟨_, rfl, by rw [u8_and192 r1.1 (by omega)]; simp; omega⟩
  clear g1
  go_enter Tryz.func52, Tryz.ntmps52
  go_wp2
  go_rounds 4
  go_ret2
  exact RetR.mk' ⟨rfl, rfl⟩
set_option maxHeartbeats 1600000 in
set_option maxRecDepth 100000 in
theorem r2c (s : ByteArray) (p : Nat) (hs : (s.size : Int) ≤ 140737488355328) (hp : (p : Int) < (s.size : Int)) (h1 : 194 ≤ bt s p) (h2 : bt s p < 224) (e1 : ((p + 1 : Nat) : Int) < (s.size : Int)) (g1 : bt s (p + 1) / 64 = 2) (hc : 128 ≤ ((bt s p % 32) * 64 + bt s (p + 1) % 64)) (hc2 : ((bt s p % 32) * 64 + bt s (p + 1) % 64) ≤ 1114111) (hc3 : ((bt s p % 32) * 64 + bt s (p + 1) % 64) < 55296 ∨ 57344 ≤ ((bt s p % 32) * 64 + bt s (p + 1) % 64)) (w : World) : Calls Tryz.prog 52 #[.string s, .int .i64 p] w (RetR (((bt s p % 32) * 64 + bt s (p + 1) % 64), 2) w) := by
  have b0 := bt_get s p
  have r0 := bt_range s p
  have b1 := bt_get s (p + 1)
  have r1 := bt_range s (p + 1)
  generalize bt s p = x0 at *
  generalize bt s (p + 1) = x1 at *
  have k0 : bits .and .i64 x0 31 = x0 % 32 := i64_and31 r0.1 (by omega)
  have k1 : bits .and .u8 x1 192 = 128 := by rw [u8_and192 r1.1 (by omega)]; omega
  have m1 : bits .and .u8 x1 63 = x1 % 64 := u8_and63 _ r1.1 (by omega)
  have y1 : ((x0 % 32) * 64 + x1 % 64) = ((x0 % 32) * 64 + x1 % 64) := rfl
  have o1 : bits .or .i64 ((x0 % 32) * 64) (x1 % 64) = (x0 % 32) * 64 + x1 % 64 := i64_or6 (by omega) (by omega) (by omega) (by omega) (by omega)
  clear y1
  clear g1
  have hc3 : ((x0 % 32) * 64 + x1 % 64) < 55296 := by omega
  all_goals
    go_enter Tryz.func52, Tryz.ntmps52
    go_wp2
    go_rounds 4
    go_ret2
    exact RetR.mk' ⟨rfl, rfl⟩
set_option maxHeartbeats 1600000 in
set_option maxRecDepth 100000 in
theorem r3a (s : ByteArray) (p : Nat) (hs : (s.size : Int) ≤ 140737488355328) (hp : (p : Int) < (s.size : Int)) (h1 : 224 ≤ bt s p) (h2 : bt s p < 240) (e1 : (s.size : Int) ≤ ((p + 1 : Nat) : Int)) (w : World) : Calls Tryz.prog 52 #[.string s, .int .i64 p] w (RetR (-2, 1) w) := by
  have b0 := bt_get s p
  have r0 := bt_range s p
  generalize bt s p = x0 at *
  have k0 : bits .and .i64 x0 15 = x0 % 16 := i64_and15 r0.1 (by omega)
  go_enter Tryz.func52, Tryz.ntmps52
  go_wp2
  go_rounds 4
  go_ret2
  exact RetR.mk' ⟨rfl, rfl⟩
set_option maxHeartbeats 1600000 in
set_option maxRecDepth 100000 in
theorem r3b (s : ByteArray) (p : Nat) (hs : (s.size : Int) ≤ 140737488355328) (hp : (p : Int) < (s.size : Int)) (h1 : 224 ≤ bt s p) (h2 : bt s p < 240) (e1 : ((p + 1 : Nat) : Int) < (s.size : Int)) (g1 : ¬ bt s (p + 1) / 64 = 2) (w : World) : Calls Tryz.prog 52 #[.string s, .int .i64 p] w (RetR (-2, 1) w) := by
  have b0 := bt_get s p
  have r0 := bt_range s p
  have b1 := bt_get s (p + 1)
  have r1 := bt_range s (p + 1)
  generalize bt s p = x0 at *
  generalize bt s (p + 1) = x1 at *
  have k0 : bits .and .i64 x0 15 = x0 % 16 := i64_and15 r0.1 (by omega)
  obtain ⟨z, kz, zn⟩ : ∃ z, bits .and .u8 x1 192 = z ∧ (z != 128) = true := ⟨_, rfl, by rw [u8_and192 r1.1 (by omega)]; simp; omega⟩
  clear g1
  go_enter Tryz.func52, Tryz.ntmps52
  go_wp2
  go_rounds 4
  go_ret2
  exact RetR.mk' ⟨rfl, rfl⟩
set_option maxHeartbeats 1600000 in
set_option maxRecDepth 100000 in
theorem r3c (s : ByteArray) (p : Nat) (hs : (s.size : Int) ≤ 140737488355328) (hp : (p : Int) < (s.size : Int)) (h1 : 224 ≤ bt s p) (h2 : bt s p < 240) (e1 : ((p + 1 : Nat) : Int) < (s.size : Int)) (g1 : bt s (p + 1) / 64 = 2) (e2 : (s.size : Int) ≤ ((p + 2 : Nat) : Int)) (w : World) : Calls Tryz.prog 52 #[.string s, .int .i64 p] w (RetR (-2, 1) w) := by
  have b0 := bt_get s p
  have r0 := bt_range s p
  have b1 := bt_get s (p + 1)
  have r1 := bt_range s (p + 1)
  generalize bt s p = x0 at *
  generalize bt s (p + 1) = x1 at *
  have k0 : bits .and .i64 x0 15 = x0 % 16 := i64_and15 r0.1 (by omega)
  have k1 : bits .and .u8 x1 192 = 128 := by rw [u8_and192 r1.1 (by omega)]; omega
  have m1 : bits .and .u8 x1 63 = x1 % 64 := u8_and63 _ r1.1 (by omega)
  have y1 : ((x0 % 16) * 64 + x1 % 64) = ((x0 % 16) * 64 + x1 % 64) := rfl
  have o1 : bits .or .i64 ((x0 % 16) * 64) (x1 % 64) = (x0 % 16) * 64 + x1 % 64 := i64_or6 (by omega) (by omega) (by omega) (by omega) (by omega)
  clear y1
  clear g1
  go_enter Tryz.func52, Tryz.ntmps52
  go_wp2
  go_rounds 4
  go_ret2
  exact RetR.mk' ⟨rfl, rfl⟩
set_option maxHeartbeats 1600000 in
set_option maxRecDepth 100000 in
theorem r3d (s : ByteArray) (p : Nat) (hs : (s.size : Int) ≤ 140737488355328) (hp : (p : Int) < (s.size : Int)) (h1 : 224 ≤ bt s p) (h2 : bt s p < 240) (e1 : ((p + 1 : Nat) : Int) < (s.size : Int)) (g1 : bt s (p + 1) / 64 = 2) (e2 : ((p + 2 : Nat) : Int) < (s.size : Int)) (g2 : ¬ bt s (p + 2) / 64 = 2) (w : World) : Calls Tryz.prog 52 #[.string s, .int .i64 p] w (RetR (-2, 1) w) := by
  have b0 := bt_get s p
  have r0 := bt_range s p
  have b1 := bt_get s (p + 1)
  have r1 := bt_range s (p + 1)
  have b2 := bt_get s (p + 2)
  have r2 := bt_range s (p + 2)
  generalize bt s p = x0 at *
  generalize bt s (p + 1) = x1 at *
  generalize bt s (p + 2) = x2 at *
  have k0 : bits .and .i64 x0 15 = x0 % 16 := i64_and15 r0.1 (by omega)
  have k1 : bits .and .u8 x1 192 = 128 := by rw [u8_and192 r1.1 (by omega)]; omega
  have m1 : bits .and .u8 x1 63 = x1 % 64 := u8_and63 _ r1.1 (by omega)
  have y1 : ((x0 % 16) * 64 + x1 % 64) = ((x0 % 16) * 64 + x1 % 64) := rfl
  have o1 : bits .or .i64 ((x0 % 16) * 64) (x1 % 64) = (x0 % 16) * 64 + x1 % 64 := i64_or6 (by omega) (by omega) (by omega) (by omega) (by omega)
  clear y1
  obtain ⟨z, kz, zn⟩ : ∃ z, bits .and .u8 x2 192 = z ∧ (z != 128) = true := ⟨_, rfl, by rw [u8_and192 r2.1 (by omega)]; simp; omega⟩
  clear g1
  clear g2
  go_enter Tryz.func52, Tryz.ntmps52
  go_wp2
  go_rounds 4
  go_ret2
  exact RetR.mk' ⟨rfl, rfl⟩
set_option maxHeartbeats 1600000 in
set_option maxRecDepth 100000 in
theorem r3e (s : ByteArray) (p : Nat) (hs : (s.size : Int) ≤ 140737488355328) (hp : (p : Int) < (s.size : Int)) (h1 : 224 ≤ bt s p) (h2 : bt s p < 240) (e1 : ((p + 1 : Nat) : Int) < (s.size : Int)) (g1 : bt s (p + 1) / 64 = 2) (e2 : ((p + 2 : Nat) : Int) < (s.size : Int)) (g2 : bt s (p + 2) / 64 = 2) (hc : (((bt s p % 16) * 64 + bt s (p + 1) % 64) * 64 + bt s (p + 2) % 64) < 2048) (w : World) : Calls Tryz.prog 52 #[.string s, .int .i64 p] w (RetR (-2, 1) w) := by
  have b0 := bt_get s p
  have r0 := bt_range s p
  have b1 := bt_get s (p + 1)
  have r1 := bt_range s (p + 1)
  have b2 := bt_get s (p + 2)
  have r2 := bt_range s (p + 2)
  generalize bt s p = x0 at *
  generalize bt s (p + 1) = x1 at *
  generalize bt s (p + 2) = x2 at *
  have k0 : bits .and .i64 x0 15 = x0 % 16 := i64_and15 r0.1 (by omega)
  have k1 : bits .and .u8 x1 192 = 128 := by rw [u8_and192 r1.1 (by omega)]; omega
  have m1 : bits .and .u8 x1 63 = x1 % 64 := u8_and63 _ r1.1 (by omega)
  have y1 : ((x0 % 16) * 64 + x1 % 64) = ((x0 % 16) * 64 + x1 % 64) := rfl
  have o1 : bits .or .i64 ((x0 % 16) * 64) (x1 % 64) = (x0 % 16) * 64 + x1 % 64 := i64_or6 (by omega) (by omega) (by omega) (by omega) (by omega)
  clear y1
  have k2 : bits .and .u8 x2 192 = 128 := by rw [u8_and192 r2.1 (by omega)]; omega
  have m2 : bits .and .u8 x2 63 = x2 % 64 := u8_and63 _ r2.1 (by omega)
  have y2 : (((x0 % 16) * 64 + x1 % 64) * 64 + x2 % 64) = (((x0 % 16) * 64 + x1 % 64) * 64 + x2 % 64) := rfl
  have o2 : bits .or .i64 (((x0 % 16) * 64 + x1 % 64) * 64) (x2 % 64) = ((x0 % 16) * 64 + x1 % 64) * 64 + x2 % 64 := i64_or6 (by omega) (by omega) (by omega) (by omega) (by omega)
  clear y2
  clear g1
  clear g2
  go_enter Tryz.func52, Tryz.ntmps52
  go_wp2
  go_rounds 4
  go_ret2
  exact RetR.mk' ⟨rfl, rfl⟩
set_option maxHeartbeats 1600000 in
set_option maxRecDepth 100000 in
theorem r3f (s : ByteArray) (p : Nat) (hs : (s.size : Int) ≤ 140737488355328) (hp : (p : Int) < (s.size : Int)) (h1 : 224 ≤ bt s p) (h2 : bt s p < 240) (e1 : ((p + 1 : Nat) : Int) < (s.size : Int)) (g1 : bt s (p + 1) / 64 = 2) (e2 : ((p + 2 : Nat) : Int) < (s.size : Int)) (g2 : bt s (p + 2) / 64 = 2) (hc : 55296 ≤ (((bt s p % 16) * 64 + bt s (p + 1) % 64) * 64 + bt s (p + 2) % 64)) (hc2 : (((bt s p % 16) * 64 + bt s (p + 1) % 64) * 64 + bt s (p + 2) % 64) < 57344) (w : World) : Calls Tryz.prog 52 #[.string s, .int .i64 p] w (RetR (-2, 1) w) := by
  have b0 := bt_get s p
  have r0 := bt_range s p
  have b1 := bt_get s (p + 1)
  have r1 := bt_range s (p + 1)
  have b2 := bt_get s (p + 2)
  have r2 := bt_range s (p + 2)
  generalize bt s p = x0 at *
  generalize bt s (p + 1) = x1 at *
  generalize bt s (p + 2) = x2 at *
  have k0 : bits .and .i64 x0 15 = x0 % 16 := i64_and15 r0.1 (by omega)
  have k1 : bits .and .u8 x1 192 = 128 := by rw [u8_and192 r1.1 (by omega)]; omega
  have m1 : bits .and .u8 x1 63 = x1 % 64 := u8_and63 _ r1.1 (by omega)
  have y1 : ((x0 % 16) * 64 + x1 % 64) = ((x0 % 16) * 64 + x1 % 64) := rfl
  have o1 : bits .or .i64 ((x0 % 16) * 64) (x1 % 64) = (x0 % 16) * 64 + x1 % 64 := i64_or6 (by omega) (by omega) (by omega) (by omega) (by omega)
  clear y1
  have k2 : bits .and .u8 x2 192 = 128 := by rw [u8_and192 r2.1 (by omega)]; omega
  have m2 : bits .and .u8 x2 63 = x2 % 64 := u8_and63 _ r2.1 (by omega)
  have y2 : (((x0 % 16) * 64 + x1 % 64) * 64 + x2 % 64) = (((x0 % 16) * 64 + x1 % 64) * 64 + x2 % 64) := rfl
  have o2 : bits .or .i64 (((x0 % 16) * 64 + x1 % 64) * 64) (x2 % 64) = ((x0 % 16) * 64 + x1 % 64) * 64 + x2 % 64 := i64_or6 (by omega) (by omega) (by omega) (by omega) (by omega)
  clear y2
  clear g1
  clear g2
  go_enter Tryz.func52, Tryz.ntmps52
  go_wp2
  go_rounds 4
  go_ret2
  exact RetR.mk' ⟨rfl, rfl⟩
set_option maxHeartbeats 1600000 in
set_option maxRecDepth 100000 in
theorem r3g (s : ByteArray) (p : Nat) (hs : (s.size : Int) ≤ 140737488355328) (hp : (p : Int) < (s.size : Int)) (h1 : 224 ≤ bt s p) (h2 : bt s p < 240) (e1 : ((p + 1 : Nat) : Int) < (s.size : Int)) (g1 : bt s (p + 1) / 64 = 2) (e2 : ((p + 2 : Nat) : Int) < (s.size : Int)) (g2 : bt s (p + 2) / 64 = 2) (hc : 2048 ≤ (((bt s p % 16) * 64 + bt s (p + 1) % 64) * 64 + bt s (p + 2) % 64)) (hc2 : (((bt s p % 16) * 64 + bt s (p + 1) % 64) * 64 + bt s (p + 2) % 64) ≤ 1114111) (hc3 : (((bt s p % 16) * 64 + bt s (p + 1) % 64) * 64 + bt s (p + 2) % 64) < 55296 ∨ 57344 ≤ (((bt s p % 16) * 64 + bt s (p + 1) % 64) * 64 + bt s (p + 2) % 64)) (w : World) : Calls Tryz.prog 52 #[.string s, .int .i64 p] w (RetR ((((bt s p % 16) * 64 + bt s (p + 1) % 64) * 64 + bt s (p + 2) % 64), 3) w) := by
  have b0 := bt_get s p
  have r0 := bt_range s p
  have b1 := bt_get s (p + 1)
  have r1 := bt_range s (p + 1)
  have b2 := bt_get s (p + 2)
  have r2 := bt_range s (p + 2)
  generalize bt s p = x0 at *
  generalize bt s (p + 1) = x1 at *
  generalize bt s (p + 2) = x2 at *
  have k0 : bits .and .i64 x0 15 = x0 % 16 := i64_and15 r0.1 (by omega)
  have k1 : bits .and .u8 x1 192 = 128 := by rw [u8_and192 r1.1 (by omega)]; omega
  have m1 : bits .and .u8 x1 63 = x1 % 64 := u8_and63 _ r1.1 (by omega)
  have y1 : ((x0 % 16) * 64 + x1 % 64) = ((x0 % 16) * 64 + x1 % 64) := rfl
  have o1 : bits .or .i64 ((x0 % 16) * 64) (x1 % 64) = (x0 % 16) * 64 + x1 % 64 := i64_or6 (by omega) (by omega) (by omega) (by omega) (by omega)
  clear y1
  have k2 : bits .and .u8 x2 192 = 128 := by rw [u8_and192 r2.1 (by omega)]; omega
  have m2 : bits .and .u8 x2 63 = x2 % 64 := u8_and63 _ r2.1 (by omega)
  have y2 : (((x0 % 16) * 64 + x1 % 64) * 64 + x2 % 64) = (((x0 % 16) * 64 + x1 % 64) * 64 + x2 % 64) := rfl
  have o2 : bits .or .i64 (((x0 % 16) * 64 + x1 % 64) * 64) (x2 % 64) = ((x0 % 16) * 64 + x1 % 64) * 64 + x2 % 64 := i64_or6 (by omega) (by omega) (by omega) (by omega) (by omega)
  clear y2
  clear g1
  clear g2
  rcases hc3 with hc3 | hc3
  all_goals
    go_enter Tryz.func52, Tryz.ntmps52
    go_wp2
    go_rounds 4
    go_ret2
    exact RetR.mk' ⟨rfl, rfl⟩
set_option maxHeartbeats 1600000 in
set_option maxRecDepth 100000 in
theorem r4a (s : ByteArray) (p : Nat) (hs : (s.size : Int) ≤ 140737488355328) (hp : (p : Int) < (s.size : Int)) (h1 : 240 ≤ bt s p) (h2 : bt s p < 245) (e1 : (s.size : Int) ≤ ((p + 1 : Nat) : Int)) (w : World) : Calls Tryz.prog 52 #[.string s, .int .i64 p] w (RetR (-2, 1) w) := by
  have b0 := bt_get s p
  have r0 := bt_range s p
  generalize bt s p = x0 at *
  have k0 : bits .and .i64 x0 7 = x0 % 8 := i64_and7 r0.1 (by omega)
  go_enter Tryz.func52, Tryz.ntmps52
  go_wp2
  go_rounds 4
  go_ret2
  exact RetR.mk' ⟨rfl, rfl⟩
set_option maxHeartbeats 1600000 in
set_option maxRecDepth 100000 in
theorem r4b (s : ByteArray) (p : Nat) (hs : (s.size : Int) ≤ 140737488355328) (hp : (p : Int) < (s.size : Int)) (h1 : 240 ≤ bt s p) (h2 : bt s p < 245) (e1 : ((p + 1 : Nat) : Int) < (s.size : Int)) (g1 : ¬ bt s (p + 1) / 64 = 2) (w : World) : Calls Tryz.prog 52 #[.string s, .int .i64 p] w (RetR (-2, 1) w) := by
  have b0 := bt_get s p
  have r0 := bt_range s p
  have b1 := bt_get s (p + 1)
  have r1 := bt_range s (p + 1)
  generalize bt s p = x0 at *
  generalize bt s (p + 1) = x1 at *
  have k0 : bits .and .i64 x0 7 = x0 % 8 := i64_and7 r0.1 (by omega)
  obtain ⟨z, kz, zn⟩ : ∃ z, bits .and .u8 x1 192 = z ∧ (z != 128) = true := ⟨_, rfl, by rw [u8_and192 r1.1 (by omega)]; simp; omega⟩
  clear g1
  go_enter Tryz.func52, Tryz.ntmps52
  go_wp2
  go_rounds 4
  go_ret2
  exact RetR.mk' ⟨rfl, rfl⟩
set_option maxHeartbeats 1600000 in
set_option maxRecDepth 100000 in
theorem r4c (s : ByteArray) (p : Nat) (hs : (s.size : Int) ≤ 140737488355328) (hp : (p : Int) < (s.size : Int)) (h1 : 240 ≤ bt s p) (h2 : bt s p < 245) (e1 : ((p + 1 : Nat) : Int) < (s.size : Int)) (g1 : bt s (p + 1) / 64 = 2) (e2 : (s.size : Int) ≤ ((p + 2 : Nat) : Int)) (w : World) : Calls Tryz.prog 52 #[.string s, .int .i64 p] w (RetR (-2, 1) w) := by
  have b0 := bt_get s p
  have r0 := bt_range s p
  have b1 := bt_get s (p + 1)
  have r1 := bt_range s (p + 1)
  generalize bt s p = x0 at *
  generalize bt s (p + 1) = x1 at *
  have k0 : bits .and .i64 x0 7 = x0 % 8 := i64_and7 r0.1 (by omega)
  have k1 : bits .and .u8 x1 192 = 128 := by rw [u8_and192 r1.1 (by omega)]; omega
  have m1 : bits .and .u8 x1 63 = x1 % 64 := u8_and63 _ r1.1 (by omega)
  have y1 : ((x0 % 8) * 64 + x1 % 64) = ((x0 % 8) * 64 + x1 % 64) := rfl
  have o1 : bits .or .i64 ((x0 % 8) * 64) (x1 % 64) = (x0 % 8) * 64 + x1 % 64 := i64_or6 (by omega) (by omega) (by omega) (by omega) (by omega)
  clear y1
  clear g1
  go_enter Tryz.func52, Tryz.ntmps52
  go_wp2
  go_rounds 4
  go_ret2
  exact RetR.mk' ⟨rfl, rfl⟩
set_option maxHeartbeats 1600000 in
set_option maxRecDepth 100000 in
theorem r4d (s : ByteArray) (p : Nat) (hs : (s.size : Int) ≤ 140737488355328) (hp : (p : Int) < (s.size : Int)) (h1 : 240 ≤ bt s p) (h2 : bt s p < 245) (e1 : ((p + 1 : Nat) : Int) < (s.size : Int)) (g1 : bt s (p + 1) / 64 = 2) (e2 : ((p + 2 : Nat) : Int) < (s.size : Int)) (g2 : ¬ bt s (p + 2) / 64 = 2) (w : World) : Calls Tryz.prog 52 #[.string s, .int .i64 p] w (RetR (-2, 1) w) := by
  have b0 := bt_get s p
  have r0 := bt_range s p
  have b1 := bt_get s (p + 1)
  have r1 := bt_range s (p + 1)
  have b2 := bt_get s (p + 2)
  have r2 := bt_range s (p + 2)
  generalize bt s p = x0 at *
  generalize bt s (p + 1) = x1 at *
  generalize bt s (p + 2) = x2 at *
  have k0 : bits .and .i64 x0 7 = x0 % 8 := i64_and7 r0.1 (by omega)
  have k1 : bits .and .u8 x1 192 = 128 := by rw [u8_and192 r1.1 (by omega)]; omega
  have m1 : bits .and .u8 x1 63 = x1 % 64 := u8_and63 _ r1.1 (by omega)
  have y1 : ((x0 % 8) * 64 + x1 % 64) = ((x0 % 8) * 64 + x1 % 64) := rfl
  have o1 : bits .or .i64 ((x0 % 8) * 64) (x1 % 64) = (x0 % 8) * 64 + x1 % 64 := i64_or6 (by omega) (by omega) (by omega) (by omega) (by omega)
  clear y1
  obtain ⟨z, kz, zn⟩ : ∃ z, bits .and .u8 x2 192 = z ∧ (z != 128) = true := ⟨_, rfl, by rw [u8_and192 r2.1 (by omega)]; simp; omega⟩
  clear g1
  clear g2
  go_enter Tryz.func52, Tryz.ntmps52
  go_wp2
  go_rounds 4
  go_ret2
  exact RetR.mk' ⟨rfl, rfl⟩
set_option maxHeartbeats 1600000 in
set_option maxRecDepth 100000 in
theorem r4e (s : ByteArray) (p : Nat) (hs : (s.size : Int) ≤ 140737488355328) (hp : (p : Int) < (s.size : Int)) (h1 : 240 ≤ bt s p) (h2 : bt s p < 245) (e1 : ((p + 1 : Nat) : Int) < (s.size : Int)) (g1 : bt s (p + 1) / 64 = 2) (e2 : ((p + 2 : Nat) : Int) < (s.size : Int)) (g2 : bt s (p + 2) / 64 = 2) (e3 : (s.size : Int) ≤ ((p + 3 : Nat) : Int)) (w : World) : Calls Tryz.prog 52 #[.string s, .int .i64 p] w (RetR (-2, 1) w) := by
  have b0 := bt_get s p
  have r0 := bt_range s p
  have b1 := bt_get s (p + 1)
  have r1 := bt_range s (p + 1)
  have b2 := bt_get s (p + 2)
  have r2 := bt_range s (p + 2)
  generalize bt s p = x0 at *
  generalize bt s (p + 1) = x1 at *
  generalize bt s (p + 2) = x2 at *
  have k0 : bits .and .i64 x0 7 = x0 % 8 := i64_and7 r0.1 (by omega)
  have k1 : bits .and .u8 x1 192 = 128 := by rw [u8_and192 r1.1 (by omega)]; omega
  have m1 : bits .and .u8 x1 63 = x1 % 64 := u8_and63 _ r1.1 (by omega)
  have y1 : ((x0 % 8) * 64 + x1 % 64) = ((x0 % 8) * 64 + x1 % 64) := rfl
  have o1 : bits .or .i64 ((x0 % 8) * 64) (x1 % 64) = (x0 % 8) * 64 + x1 % 64 := i64_or6 (by omega) (by omega) (by omega) (by omega) (by omega)
  clear y1
  have k2 : bits .and .u8 x2 192 = 128 := by rw [u8_and192 r2.1 (by omega)]; omega
  have m2 : bits .and .u8 x2 63 = x2 % 64 := u8_and63 _ r2.1 (by omega)
  have y2 : (((x0 % 8) * 64 + x1 % 64) * 64 + x2 % 64) = (((x0 % 8) * 64 + x1 % 64) * 64 + x2 % 64) := rfl
  have o2 : bits .or .i64 (((x0 % 8) * 64 + x1 % 64) * 64) (x2 % 64) = ((x0 % 8) * 64 + x1 % 64) * 64 + x2 % 64 := i64_or6 (by omega) (by omega) (by omega) (by omega) (by omega)
  clear y2
  clear g1
  clear g2
  go_enter Tryz.func52, Tryz.ntmps52
  go_wp2
  go_rounds 4
  go_ret2
  exact RetR.mk' ⟨rfl, rfl⟩
set_option maxHeartbeats 1600000 in
set_option maxRecDepth 100000 in
theorem r4f (s : ByteArray) (p : Nat) (hs : (s.size : Int) ≤ 140737488355328) (hp : (p : Int) < (s.size : Int)) (h1 : 240 ≤ bt s p) (h2 : bt s p < 245) (e1 : ((p + 1 : Nat) : Int) < (s.size : Int)) (g1 : bt s (p + 1) / 64 = 2) (e2 : ((p + 2 : Nat) : Int) < (s.size : Int)) (g2 : bt s (p + 2) / 64 = 2) (e3 : ((p + 3 : Nat) : Int) < (s.size : Int)) (g3 : ¬ bt s (p + 3) / 64 = 2) (w : World) : Calls Tryz.prog 52 #[.string s, .int .i64 p] w (RetR (-2, 1) w) := by
  have b0 := bt_get s p
  have r0 := bt_range s p
  have b1 := bt_get s (p + 1)
  have r1 := bt_range s (p + 1)
  have b2 := bt_get s (p + 2)
  have r2 := bt_range s (p + 2)
  have b3 := bt_get s (p + 3)
  have r3 := bt_range s (p + 3)
  generalize bt s p = x0 at *
  generalize bt s (p + 1) = x1 at *
  generalize bt s (p + 2) = x2 at *
  generalize bt s (p + 3) = x3 at *
  have k0 : bits .and .i64 x0 7 = x0 % 8 := i64_and7 r0.1 (by omega)
  have k1 : bits .and .u8 x1 192 = 128 := by rw [u8_and192 r1.1 (by omega)]; omega
  have m1 : bits .and .u8 x1 63 = x1 % 64 := u8_and63 _ r1.1 (by omega)
  have y1 : ((x0 % 8) * 64 + x1 % 64) = ((x0 % 8) * 64 + x1 % 64) := rfl
  have o1 : bits .or .i64 ((x0 % 8) * 64) (x1 % 64) = (x0 % 8) * 64 + x1 % 64 := i64_or6 (by omega) (by omega) (by omega) (by omega) (by omega)
  clear y1
  have k2 : bits .and .u8 x2 192 = 128 := by rw [u8_and192 r2.1 (by omega)]; omega
  have m2 : bits .and .u8 x2 63 = x2 % 64 := u8_and63 _ r2.1 (by omega)
  have y2 : (((x0 % 8) * 64 + x1 % 64) * 64 + x2 % 64) = (((x0 % 8) * 64 + x1 % 64) * 64 + x2 % 64) := rfl
  have o2 : bits .or .i64 (((x0 % 8) * 64 + x1 % 64) * 64) (x2 % 64) = ((x0 % 8) * 64 + x1 % 64) * 64 + x2 % 64 := i64_or6 (by omega) (by omega) (by omega) (by omega) (by omega)
  clear y2
  obtain ⟨z, kz, zn⟩ : ∃ z, bits .and .u8 x3 192 = z ∧ (z != 128) = true := ⟨_, rfl, by rw [u8_and192 r3.1 (by omega)]; simp; omega⟩
  clear g1
  clear g2
  clear g3
  go_enter Tryz.func52, Tryz.ntmps52
  go_wp2
  go_rounds 4
  go_ret2
  exact RetR.mk' ⟨rfl, rfl⟩
set_option maxHeartbeats 1600000 in
set_option maxRecDepth 100000 in
theorem r4g (s : ByteArray) (p : Nat) (hs : (s.size : Int) ≤ 140737488355328) (hp : (p : Int) < (s.size : Int)) (h1 : 240 ≤ bt s p) (h2 : bt s p < 245) (e1 : ((p + 1 : Nat) : Int) < (s.size : Int)) (g1 : bt s (p + 1) / 64 = 2) (e2 : ((p + 2 : Nat) : Int) < (s.size : Int)) (g2 : bt s (p + 2) / 64 = 2) (e3 : ((p + 3 : Nat) : Int) < (s.size : Int)) (g3 : bt s (p + 3) / 64 = 2) (hc : ((((bt s p % 8) * 64 + bt s (p + 1) % 64) * 64 + bt s (p + 2) % 64) * 64 + bt s (p + 3) % 64) < 65536) (w : World) : Calls Tryz.prog 52 #[.string s, .int .i64 p] w (RetR (-2, 1) w) := by
  have b0 := bt_get s p
  have r0 := bt_range s p
  have b1 := bt_get s (p + 1)
  have r1 := bt_range s (p + 1)
  have b2 := bt_get s (p + 2)
  have r2 := bt_range s (p + 2)
  have b3 := bt_get s (p + 3)
  have r3 := bt_range s (p + 3)
  generalize bt s p = x0 at *
  generalize bt s (p + 1) = x1 at *
  generalize bt s (p + 2) = x2 at *
  generalize bt s (p + 3) = x3 at *
  have k0 : bits .and .i64 x0 7 = x0 % 8 := i64_and7 r0.1 (by omega)
  have k1 : bits .and .u8 x1 192 = 128 := by rw [u8_and192 r1.1 (by omega)]; omega
  have m1 : bits .and .u8 x1 63 = x1 % 64 := u8_and63 _ r1.1 (by omega)
  have y1 : ((x0 % 8) * 64 + x1 % 64) = ((x0 % 8) * 64 + x1 % 64) := rfl
  have o1 : bits .or .i64 ((x0 % 8) * 64) (x1 % 64) = (x0 % 8) * 64 + x1 % 64 := i64_or6 (by omega) (by omega) (by omega) (by omega) (by omega)
  clear y1
  have k2 : bits .and .u8 x2 192 = 128 := by rw [u8_and192 r2.1 (by omega)]; omega
  have m2 : bits .and .u8 x2 63 = x2 % 64 := u8_and63 _ r2.1 (by omega)
  have y2 : (((x0 % 8) * 64 + x1 % 64) * 64 + x2 % 64) = (((x0 % 8) * 64 + x1 % 64) * 64 + x2 % 64) := rfl
  have o2 : bits .or .i64 (((x0 % 8) * 64 + x1 % 64) * 64) (x2 % 64) = ((x0 % 8) * 64 + x1 % 64) * 64 + x2 % 64 := i64_or6 (by omega) (by omega) (by omega) (by omega) (by omega)
  clear y2
  have k3 : bits .and .u8 x3 192 = 128 := by rw [u8_and192 r3.1 (by omega)]; omega
  have m3 : bits .and .u8 x3 63 = x3 % 64 := u8_and63 _ r3.1 (by omega)
  have y3 : ((((x0 % 8) * 64 + x1 % 64) * 64 + x2 % 64) * 64 + x3 % 64) = ((((x0 % 8) * 64 + x1 % 64) * 64 + x2 % 64) * 64 + x3 % 64) := rfl
  have o3 : bits .or .i64 ((((x0 % 8) * 64 + x1 % 64) * 64 + x2 % 64) * 64) (x3 % 64) = (((x0 % 8) * 64 + x1 % 64) * 64 + x2 % 64) * 64 + x3 % 64 := i64_or6 (by omega) (by omega) (by omega) (by omega) (by omega)
  clear y3
  clear g1
  clear g2
  clear g3
  go_enter Tryz.func52, Tryz.ntmps52
  go_wp2
  go_rounds 4
  go_ret2
  exact RetR.mk' ⟨rfl, rfl⟩
set_option maxHeartbeats 1600000 in
set_option maxRecDepth 100000 in
theorem r4h (s : ByteArray) (p : Nat) (hs : (s.size : Int) ≤ 140737488355328) (hp : (p : Int) < (s.size : Int)) (h1 : 240 ≤ bt s p) (h2 : bt s p < 245) (e1 : ((p + 1 : Nat) : Int) < (s.size : Int)) (g1 : bt s (p + 1) / 64 = 2) (e2 : ((p + 2 : Nat) : Int) < (s.size : Int)) (g2 : bt s (p + 2) / 64 = 2) (e3 : ((p + 3 : Nat) : Int) < (s.size : Int)) (g3 : bt s (p + 3) / 64 = 2) (hc : 1114111 < ((((bt s p % 8) * 64 + bt s (p + 1) % 64) * 64 + bt s (p + 2) % 64) * 64 + bt s (p + 3) % 64)) (w : World) : Calls Tryz.prog 52 #[.string s, .int .i64 p] w (RetR (-2, 1) w) := by
  have b0 := bt_get s p
  have r0 := bt_range s p
  have b1 := bt_get s (p + 1)
  have r1 := bt_range s (p + 1)
  have b2 := bt_get s (p + 2)
  have r2 := bt_range s (p + 2)
  have b3 := bt_get s (p + 3)
  have r3 := bt_range s (p + 3)
  generalize bt s p = x0 at *
  generalize bt s (p + 1) = x1 at *
  generalize bt s (p + 2) = x2 at *
  generalize bt s (p + 3) = x3 at *
  have k0 : bits .and .i64 x0 7 = x0 % 8 := i64_and7 r0.1 (by omega)
  have k1 : bits .and .u8 x1 192 = 128 := by rw [u8_and192 r1.1 (by omega)]; omega
  have m1 : bits .and .u8 x1 63 = x1 % 64 := u8_and63 _ r1.1 (by omega)
  have y1 : ((x0 % 8) * 64 + x1 % 64) = ((x0 % 8) * 64 + x1 % 64) := rfl
  have o1 : bits .or .i64 ((x0 % 8) * 64) (x1 % 64) = (x0 % 8) * 64 + x1 % 64 := i64_or6 (by omega) (by omega) (by omega) (by omega) (by omega)
  clear y1
  have k2 : bits .and .u8 x2 192 = 128 := by rw [u8_and192 r2.1 (by omega)]; omega
  have m2 : bits .and .u8 x2 63 = x2 % 64 := u8_and63 _ r2.1 (by omega)
  have y2 : (((x0 % 8) * 64 + x1 % 64) * 64 + x2 % 64) = (((x0 % 8) * 64 + x1 % 64) * 64 + x2 % 64) := rfl
  have o2 : bits .or .i64 (((x0 % 8) * 64 + x1 % 64) * 64) (x2 % 64) = ((x0 % 8) * 64 + x1 % 64) * 64 + x2 % 64 := i64_or6 (by omega) (by omega) (by omega) (by omega) (by omega)
  clear y2
  have k3 : bits .and .u8 x3 192 = 128 := by rw [u8_and192 r3.1 (by omega)]; omega
  have m3 : bits .and .u8 x3 63 = x3 % 64 := u8_and63 _ r3.1 (by omega)
  have y3 : ((((x0 % 8) * 64 + x1 % 64) * 64 + x2 % 64) * 64 + x3 % 64) = ((((x0 % 8) * 64 + x1 % 64) * 64 + x2 % 64) * 64 + x3 % 64) := rfl
  have o3 : bits .or .i64 ((((x0 % 8) * 64 + x1 % 64) * 64 + x2 % 64) * 64) (x3 % 64) = (((x0 % 8) * 64 + x1 % 64) * 64 + x2 % 64) * 64 + x3 % 64 := i64_or6 (by omega) (by omega) (by omega) (by omega) (by omega)
  clear y3
  clear g1
  clear g2
  clear g3
  go_enter Tryz.func52, Tryz.ntmps52
  go_wp2
  go_rounds 4
  go_ret2
  exact RetR.mk' ⟨rfl, rfl⟩
set_option maxHeartbeats 1600000 in
set_option maxRecDepth 100000 in
theorem r4i (s : ByteArray) (p : Nat) (hs : (s.size : Int) ≤ 140737488355328) (hp : (p : Int) < (s.size : Int)) (h1 : 240 ≤ bt s p) (h2 : bt s p < 245) (e1 : ((p + 1 : Nat) : Int) < (s.size : Int)) (g1 : bt s (p + 1) / 64 = 2) (e2 : ((p + 2 : Nat) : Int) < (s.size : Int)) (g2 : bt s (p + 2) / 64 = 2) (e3 : ((p + 3 : Nat) : Int) < (s.size : Int)) (g3 : bt s (p + 3) / 64 = 2) (hc : 65536 ≤ ((((bt s p % 8) * 64 + bt s (p + 1) % 64) * 64 + bt s (p + 2) % 64) * 64 + bt s (p + 3) % 64)) (hc2 : ((((bt s p % 8) * 64 + bt s (p + 1) % 64) * 64 + bt s (p + 2) % 64) * 64 + bt s (p + 3) % 64) ≤ 1114111) (hc3 : ((((bt s p % 8) * 64 + bt s (p + 1) % 64) * 64 + bt s (p + 2) % 64) * 64 + bt s (p + 3) % 64) < 55296 ∨ 57344 ≤ ((((bt s p % 8) * 64 + bt s (p + 1) % 64) * 64 + bt s (p + 2) % 64) * 64 + bt s (p + 3) % 64)) (w : World) : Calls Tryz.prog 52 #[.string s, .int .i64 p] w (RetR (((((bt s p % 8) * 64 + bt s (p + 1) % 64) * 64 + bt s (p + 2) % 64) * 64 + bt s (p + 3) % 64), 4) w) := by
  have b0 := bt_get s p
  have r0 := bt_range s p
  have b1 := bt_get s (p + 1)
  have r1 := bt_range s (p + 1)
  have b2 := bt_get s (p + 2)
  have r2 := bt_range s (p + 2)
  have b3 := bt_get s (p + 3)
  have r3 := bt_range s (p + 3)
  generalize bt s p = x0 at *
  generalize bt s (p + 1) = x1 at *
  generalize bt s (p + 2) = x2 at *
  generalize bt s (p + 3) = x3 at *
  have k0 : bits .and .i64 x0 7 = x0 % 8 := i64_and7 r0.1 (by omega)
  have k1 : bits .and .u8 x1 192 = 128 := by rw [u8_and192 r1.1 (by omega)]; omega
  have m1 : bits .and .u8 x1 63 = x1 % 64 := u8_and63 _ r1.1 (by omega)
  have y1 : ((x0 % 8) * 64 + x1 % 64) = ((x0 % 8) * 64 + x1 % 64) := rfl
  have o1 : bits .or .i64 ((x0 % 8) * 64) (x1 % 64) = (x0 % 8) * 64 + x1 % 64 := i64_or6 (by omega) (by omega) (by omega) (by omega) (by omega)
  clear y1
  have k2 : bits .and .u8 x2 192 = 128 := by rw [u8_and192 r2.1 (by omega)]; omega
  have m2 : bits .and .u8 x2 63 = x2 % 64 := u8_and63 _ r2.1 (by omega)
  have y2 : (((x0 % 8) * 64 + x1 % 64) * 64 + x2 % 64) = (((x0 % 8) * 64 + x1 % 64) * 64 + x2 % 64) := rfl
  have o2 : bits .or .i64 (((x0 % 8) * 64 + x1 % 64) * 64) (x2 % 64) = ((x0 % 8) * 64 + x1 % 64) * 64 + x2 % 64 := i64_or6 (by omega) (by omega) (by omega) (by omega) (by omega)
  clear y2
  have k3 : bits .and .u8 x3 192 = 128 := by rw [u8_and192 r3.1 (by omega)]; omega
  have m3 : bits .and .u8 x3 63 = x3 % 64 := u8_and63 _ r3.1 (by omega)
  have y3 : ((((x0 % 8) * 64 + x1 % 64) * 64 + x2 % 64) * 64 + x3 % 64) = ((((x0 % 8) * 64 + x1 % 64) * 64 + x2 % 64) * 64 + x3 % 64) := rfl
  have o3 : bits .or .i64 ((((x0 % 8) * 64 + x1 % 64) * 64 + x2 % 64) * 64) (x3 % 64) = (((x0 % 8) * 64 + x1 % 64) * 64 + x2 % 64) * 64 + x3 % 64 := i64_or6 (by omega) (by omega) (by omega) (by omega) (by omega)
  clear y3
  clear g1
  clear g2
  clear g3
  have hc3 : 57344 ≤ ((((x0 % 8) * 64 + x1 % 64) * 64 + x2 % 64) * 64 + x3 % 64) := by omega
  all_goals
    go_enter Tryz.func52, Tryz.ntmps52
    go_wp2
    go_rounds 4
    go_ret2
    exact RetR.mk' ⟨rfl, rfl⟩
end Go.Proofs.YtkfdcbdlcipmfaaGreatFmt
