/- Walks: the bytes of a code point, as the reference writes them. -/
import Derived.Test.YtkfdcbdlcipmfaaGreatFmtH12
import Derived.Laws.IdiomStrings
set_option linter.unusedVariables false
set_option linter.unusedSimpArgs false
namespace Go.Proofs.YtkfdcbdlcipmfaaGreatFmt
open Go.RowKit Css
def bsOf (l : List UInt8) : ByteArray := ⟨l.toArray⟩
theorem bsOf_list (l : List UInt8) : (bsOf l).data.toList = l := by simp [bsOf]
theorem bsOf_size (l : List UInt8) : (bsOf l).size = l.length := by show l.toArray.size = _; simp
theorem by8_mod (c : Int) : ((by8 c).toNat : Int) = c % 256 := by
  unfold by8; rw [UInt8.toNat_ofNat']; omega
theorem conv_fact (w : World) (cs : List Int) (fr : Nat × Nat) (n : Nat) (hn : n = cs.length) (vs : Array Value) (hv : vs = ((cs.map by8).map fun b => Value.int .u8 (b.toNat : Int)).toArray) :
    (convert 117 9 (.slice (some ⟨w.heap.size, 0, none⟩) n n)).run Tryz.prog (w.alloc (.cells vs 5 fr)) = .ok (.string (bsOf (cs.map by8))) (w.alloc (.cells vs 5 fr)) := by
  subst hn
  have := run_convert_bytes_back (P := Tryz.prog) (w.alloc (.cells vs 5 fr)) 117 9 5 ⟨w.heap.size, 0, none⟩ cs.length (cs.map by8) Tryz.underlying117 Tryz.underlying5 Tryz.underlying9 (by
    intro j hj
    have e : (⟨w.heap.size, 0, none⟩ : Addr).add j = ⟨w.heap.size, j, none⟩ := by
      unfold Addr.add; split
      · rename_i h; subst h; rfl
      · simp
    have hj2 : j < cs.length := by simpa using hj
    rw [e, World.cell?_alloc_mark, hv]
    simp [hj2])
  rw [List.length_map] at this
  exact this
section
variable {x y : Int}
theorem i64_and63 (h₀ : 0 ≤ x) (h₁ : x < 2147483648) : bits .and .i64 x 63 = x % 64 := bits_mask .i64 31 (by decide) wraps_i64 6 (by decide) x h₀ (by omega)
theorem i64_or5 (hx₀ : 0 ≤ x) (hx : x % 32 = 0) (hx₁ : x < 2147483648) (h₀ : 0 ≤ y) (h₁ : y < 32) : bits .or .i64 x y = x + y :=
  bits_join .i64 31 (by decide) wraps_i64 5 x y hx₀ hx hx₁ h₀ h₁ (by omega)
theorem i64_or4 (hx₀ : 0 ≤ x) (hx : x % 16 = 0) (hx₁ : x < 2147483648) (h₀ : 0 ≤ y) (h₁ : y < 16) : bits .or .i64 x y = x + y :=
  bits_join .i64 31 (by decide) wraps_i64 4 x y hx₀ hx hx₁ h₀ h₁ (by omega)
end
def RetS (l : List UInt8) (w : World) (e : Ending) (w' : World) : Prop := e = .returned (.string (bsOf l)) ∧ Below w.heap.size w w'
set_option maxHeartbeats 800000 in
set_option maxRecDepth 100000 in
theorem enc_a (c : Int) (h0 : -2 ≤ c) (h1 : c < 128) (w : World) : Calls Tryz.prog 60 #[.int .i64 c] w (RetS [by8 c] w) := by
  have hcv := conv_fact w [c] (0, 0) 1 rfl #[Value.int IntKind.u8 (c % 256)] (by simp [by8_mod])
  go_enter Tryz.func60, Tryz.ntmps60
  go_wp2_with fail
  go_ret
  exact ⟨rfl, (Below.refl _ _).alloc (Nat.le_refl _) _⟩
set_option maxHeartbeats 800000 in
set_option maxRecDepth 100000 in
theorem enc_b (c : Int) (h0 : 128 ≤ c) (h1 : c < 2048) (w : World) : Calls Tryz.prog 60 #[.int .i64 c] w (RetS [by8 (192 + c / 64), by8 (128 + c % 64)] w) := by
  have k1 : bits .or .i64 192 (c / 64) = 192 + c / 64 := i64_or6 (by omega) (by omega) (by omega) (by omega) (by omega)
  have k2 : bits .and .i64 c 63 = c % 64 := i64_and63 (by omega) (by omega)
  have k3 : bits .or .i64 128 (c % 64) = 128 + c % 64 := i64_or6 (by omega) (by omega) (by omega) (by omega) (by omega)
  have hcv := conv_fact w [192 + c / 64, 128 + c % 64] (0, 0) 2 rfl #[Value.int IntKind.u8 (192 + c / 64), Value.int IntKind.u8 (128 + c % 64)] (by simp [by8_mod]; omega)
  go_enter Tryz.func60, Tryz.ntmps60
  go_wp2_with fail
  go_ret
  exact ⟨rfl, (Below.refl _ _).alloc (Nat.le_refl _) _⟩
set_option maxHeartbeats 800000 in
set_option maxRecDepth 100000 in
theorem enc_c (c : Int) (h0 : 2048 ≤ c) (h1 : c < 65536) (w : World) : Calls Tryz.prog 60 #[.int .i64 c] w (RetS [by8 (224 + c / 4096), by8 (128 + c / 64 % 64), by8 (128 + c % 64)] w) := by
  have k1 : bits .or .i64 224 (c / 4096) = 224 + c / 4096 := i64_or5 (by omega) (by omega) (by omega) (by omega) (by omega)
  have k2 : bits .and .i64 c 63 = c % 64 := i64_and63 (by omega) (by omega)
  have k3 : bits .or .i64 128 (c % 64) = 128 + c % 64 := i64_or6 (by omega) (by omega) (by omega) (by omega) (by omega)
  have k4 : bits .and .i64 (c / 64) 63 = c / 64 % 64 := i64_and63 (by omega) (by omega)
  have k5 : bits .or .i64 128 (c / 64 % 64) = 128 + c / 64 % 64 := i64_or6 (by omega) (by omega) (by omega) (by omega) (by omega)
  have hcv := conv_fact w [224 + c / 4096, 128 + c / 64 % 64, 128 + c % 64] (0, 0) 3 rfl #[Value.int IntKind.u8 (224 + c / 4096), Value.int IntKind.u8 (128 + c / 64 % 64), Value.int IntKind.u8 (128 + c % 64)] (by simp [by8_mod]; omega)
  go_enter Tryz.func60, Tryz.ntmps60
  go_wp2_with fail
  go_ret
  exact ⟨rfl, (Below.refl _ _).alloc (Nat.le_refl _) _⟩
set_option maxHeartbeats 800000 in
set_option maxRecDepth 100000 in
theorem enc_d (c : Int) (h0 : 65536 ≤ c) (h1 : c ≤ 1114111) (w : World) : Calls Tryz.prog 60 #[.int .i64 c] w (RetS [by8 (240 + c / 262144), by8 (128 + c / 4096 % 64), by8 (128 + c / 64 % 64), by8 (128 + c % 64)] w) := by
  have k1 : bits .or .i64 240 (c / 262144) = 240 + c / 262144 := i64_or4 (by omega) (by omega) (by omega) (by omega) (by omega)
  have k2 : bits .and .i64 c 63 = c % 64 := i64_and63 (by omega) (by omega)
  have k3 : bits .or .i64 128 (c % 64) = 128 + c % 64 := i64_or6 (by omega) (by omega) (by omega) (by omega) (by omega)
  have k4 : bits .and .i64 (c / 64) 63 = c / 64 % 64 := i64_and63 (by omega) (by omega)
  have k5 : bits .or .i64 128 (c / 64 % 64) = 128 + c / 64 % 64 := i64_or6 (by omega) (by omega) (by omega) (by omega) (by omega)
  have k6 : bits .and .i64 (c / 4096) 63 = c / 4096 % 64 := i64_and63 (by omega) (by omega)
  have k7 : bits .or .i64 128 (c / 4096 % 64) = 128 + c / 4096 % 64 := i64_or6 (by omega) (by omega) (by omega) (by omega) (by omega)
  have hcv := conv_fact w [240 + c / 262144, 128 + c / 4096 % 64, 128 + c / 64 % 64, 128 + c % 64] (0, 0) 4 rfl #[Value.int IntKind.u8 (240 + c / 262144), Value.int IntKind.u8 (128 + c / 4096 % 64), Value.int IntKind.u8 (128 + c / 64 % 64), Value.int IntKind.u8 (128 + c % 64)] (by simp [by8_mod]; omega)
  go_enter Tryz.func60, Tryz.ntmps60
  go_wp2_with fail
  go_ret
  exact ⟨rfl, (Below.refl _ _).alloc (Nat.le_refl _) _⟩
theorem encoded_any (c : Int) (h0 : -2 ≤ c) (h1 : c ≤ 1114111) (w : World) : Calls Tryz.prog 60 #[.int .i64 c] w (RetS (enc1 c) w) := by
  unfold enc1
  by_cases c1 : c < 128
  · rw [if_pos c1]; exact enc_a c h0 c1 w
  · rw [if_neg c1]
    by_cases c2 : c < 2048
    · rw [if_pos c2]; exact enc_b c (by omega) c2 w
    · rw [if_neg c2]
      by_cases c3 : c < 65536
      · rw [if_pos c3]; exact enc_c c (by omega) c3 w
      · rw [if_neg c3]; exact enc_d c (by omega) h1 w
end Go.Proofs.YtkfdcbdlcipmfaaGreatFmt
namespace Go.Proofs.YtkfdcbdlcipmfaaGreatFmt
open Go.RowKit Css
def ToU (b : Nat) (s : ByteArray) (ds : List Int) (cv : Value) (op : Bool) (w : World) (e : Ending) (w' : World) : Prop := e = .returned (.tuple #[]) ∧ To b s ds cv op w w'
theorem peek_z {b : Nat} {s : ByteArray} {ds : List Int} {cv : Value} {op : Bool} {w : World} (h : LX b s ds cv op w) :
    Calls Tryz.prog 59 #[.pointer (some ⟨b, 0, none⟩), .int .i64 0] w (RetI (pk ds 0) w) := peek_any h 0 (by decide)
theorem peek_1 {b : Nat} {s : ByteArray} {ds : List Int} {cv : Value} {op : Bool} {w : World} (h : LX b s ds cv op w) :
    Calls Tryz.prog 59 #[.pointer (some ⟨b, 0, none⟩), .int .i64 1] w (RetI (pk ds 1) w) := peek_any h 1 (by decide)
theorem peek_2 {b : Nat} {s : ByteArray} {ds : List Int} {cv : Value} {op : Bool} {w : World} (h : LX b s ds cv op w) :
    Calls Tryz.prog 59 #[.pointer (some ⟨b, 0, none⟩), .int .i64 2] w (RetI (pk ds 2) w) := peek_any h 2 (by decide)
theorem peek_3 {b : Nat} {s : ByteArray} {ds : List Int} {cv : Value} {op : Bool} {w : World} (h : LX b s ds cv op w) :
    Calls Tryz.prog 59 #[.pointer (some ⟨b, 0, none⟩), .int .i64 3] w (RetI (pk ds 3) w) := peek_any h 3 (by decide)
section
variable {b : Nat} {s : ByteArray} {ds : List Int} {cv : Value} {op : Bool} {w : World}
set_option maxHeartbeats 800000 in
set_option maxRecDepth 100000 in
theorem newline_any (h : LX b s ds cv op w) : Calls Tryz.prog 93 #[.pointer (some ⟨b, 0, none⟩)] w (ToU b s (newline ds) cv op w) := by
  have HL := Lib.hid h
  clear h
  cases h1 : (pk ds 0 == 13)
  · have H1 : Hid (newline ds = ds.tail) := by show _ = _; unfold newline; rw [if_neg]; intro hx; simp [hx.1] at h1
    go_enter Tryz.func93, Tryz.ntmps93
    go_wp2_with fail
    refine (take_any HL.out).mono ?_
    rintro e w1 ⟨rfl, ht⟩
    have HT := Lib.hid ht
    clear ht
    go_wp2_with fail
    go_end0
    exact ⟨rfl, by rw [H1.out]; exact HT.out⟩
  · have h1' : pk ds 0 = 13 := by simpa using h1
    cases h2 : (pk ds.tail 0 == 10)
    · have H1 : Hid (newline ds = ds.tail) := by show _ = _; unfold newline; rw [if_neg]; intro hx; simp [hx.2] at h2
      have H1' := Lib.hid h1'
      clear h1'
      go_enter Tryz.func93, Tryz.ntmps93
      go_wp2_with fail
      refine (take_any HL.out).mono ?_
      rintro e w1 ⟨rfl, ht⟩
      have HT := Lib.hid ht
      clear ht
      go_wp2_with fail
      refine (peek_z HT.out.lx).mono ?_
      rintro e w1 ⟨rfl, rfl⟩
      go_wp2_with fail
      go_end0
      exact ⟨rfl, by rw [H1.out]; exact HT.out⟩
    · have h2' : pk ds.tail 0 = 10 := by simpa using h2
      have H1 : Hid (newline ds = ds.tail.tail) := by show _ = _; unfold newline; rw [if_pos ⟨h1', h2'⟩]
      clear h1' h2'
      go_enter Tryz.func93, Tryz.ntmps93
      go_wp2_with fail
      refine (take_any HL.out).mono ?_
      rintro e w1 ⟨rfl, ht⟩
      have HT := Lib.hid ht
      clear ht
      go_wp2_with fail
      refine (peek_z HT.out.lx).mono ?_
      rintro e w1 ⟨rfl, rfl⟩
      go_wp2_with fail
      refine (take_any HT.out.lx).mono ?_
      rintro e w2 ⟨rfl, ht2⟩
      have HT2 := Lib.hid ht2
      clear ht2
      go_wp2_with fail
      go_end0
      exact ⟨rfl, by rw [H1.out]; exact ⟨HT2.out.lx, HT.out.lk.trans HT2.out.lk⟩⟩
set_option maxHeartbeats 800000 in
set_option maxRecDepth 100000 in
theorem digits_any (h : LX b s ds cv op w) : Calls Tryz.prog 94 #[.pointer (some ⟨b, 0, none⟩)] w (ToU b s (digits ds) cv op w) := by
  have HL := Lib.hid h
  clear h
  rename World => w0
  go_enter Tryz.func94, Tryz.ntmps94
  go_wp2_with fail
  go_loopg [] ds.length (fun k wr => ∃ D : List Int, D.length = k ∧ Hid (digits D = digits ds) ∧ Hid (To b s D cv op w0 wr))
  case atStart => exact ⟨ds, rfl, rfl, HL.out, Lk.refl _ _⟩
  case round =>
    obtain ⟨D, hD, HD, HT⟩ := hrel
    go_wp2_with fail
    refine (peek_z HT.out.lx).mono ?_
    rintro e w1 ⟨rfl, rfl⟩
    go_wp2_with fail
    refine (dg_any _ _).mono ?_
    rintro e w1 ⟨rfl, rfl⟩
    cases hd : dgQ (pk D 0)
    · have HN : Hid (digits D = D) := by
        show _ = _
        apply digits_stop
        intro hx; rw [dgQ_iff.2 hx] at hd; cases hd
      go_wp2_with fail
      go_end0
      exact ⟨rfl, by rw [← HD.out, HN.out]; exact HT.out⟩
    · have hx := dgQ_iff.1 hd
      obtain ⟨c, t, rfl⟩ : ∃ c t, D = c :: t := by
        cases D with
        | nil => unfold isDg at hx; simp at hx
        | cons c t => exact ⟨c, t, rfl⟩
      have HN : Hid (digits t = digits ds) := by
        have := HD.out
        rw [digits, if_pos (by simpa using hx)] at this; exact this
      clear hx
      go_wp2_with fail
      refine (take_any HT.out.lx).mono ?_
      rintro e w2 ⟨rfl, ht2⟩
      have HT2 := Lib.hid ht2
      clear ht2
      go_wp2_with fail
      go_roundg t.length
      case measure => simp at hD; omega
      case rel => exact ⟨t, rfl, HN.out, HT2.out.lx, HT.out.lk.trans HT2.out.lk⟩
end
end Go.Proofs.YtkfdcbdlcipmfaaGreatFmt
namespace Go.Proofs.YtkfdcbdlcipmfaaGreatFmt
open Go.RowKit Css
section
variable {b : Nat} {s : ByteArray} {ds : List Int} {cv : Value} {op : Bool} {w : World}
theorem ret_i64 {a b : Int} (h : a = b) : Ending.returned (.int .i64 a) = .returned (.int .i64 b) := by rw [h]
theorem spaces_stop {r : List Int} (h : ¬ isSp (pk r 0)) : spaces r = r := by
  cases r with
  | nil => rfl
  | cons c t => unfold spaces; rw [if_neg (by simpa using h)]
set_option maxHeartbeats 800000 in
set_option maxRecDepth 100000 in
theorem spaces_any (h : LX b s ds cv op w) : Calls Tryz.prog 65 #[.pointer (some ⟨b, 0, none⟩)] w (ToU b s (spaces ds) cv op w) := by
  have HL := Lib.hid h
  clear h
  rename World => w0
  go_enter Tryz.func65, Tryz.ntmps65
  go_wp2_with fail
  go_loopg [] ds.length (fun k wr => ∃ D : List Int, D.length = k ∧ Hid (spaces D = spaces ds) ∧ Hid (To b s D cv op w0 wr))
  case atStart => exact ⟨ds, rfl, rfl, HL.out, Lk.refl _ _⟩
  case round =>
    obtain ⟨D, hD, HD, HT⟩ := hrel
    go_wp2_with fail
    refine (peek_z HT.out.lx).mono ?_
    rintro e w1 ⟨rfl, rfl⟩
    go_wp2_with fail
    refine (sp_any _ _).mono ?_
    rintro e w1 ⟨rfl, rfl⟩
    cases hd : spQ (pk D 0)
    · have HN : Hid (spaces D = D) := by
        show _ = _
        apply spaces_stop
        intro hx; rw [spQ_iff.2 hx] at hd; cases hd
      go_wp2_with fail
      go_end0
      exact ⟨rfl, by rw [← HD.out, HN.out]; exact HT.out⟩
    · have hx := spQ_iff.1 hd
      obtain ⟨c, t, rfl⟩ : ∃ c t, D = c :: t := by
        cases D with
        | nil => unfold isSp isNl at hx; simp at hx
        | cons c t => exact ⟨c, t, rfl⟩
      have HN : Hid (spaces t = spaces ds) := by
        have := HD.out
        rw [spaces, if_pos (by simpa using hx)] at this; exact this
      clear hx
      go_wp2_with fail
      refine (take_any HT.out.lx).mono ?_
      rintro e w2 ⟨rfl, ht2⟩
      have HT2 := Lib.hid ht2
      clear ht2
      go_wp2_with fail
      go_roundg t.length
      case measure => simp at hD; omega
      case rel => exact ⟨t, rfl, HN.out, HT2.out.lx, HT.out.lk.trans HT2.out.lk⟩
def EscR (b : Nat) (s : ByteArray) (ds : List Int) (cv : Value) (op : Bool) (w : World) (e : Ending) (w' : World) : Prop :=
  e = .returned (.int .i64 (escape ds).1) ∧ To b s (escape ds).2.2 cv (op || (escape ds).2.1) w w'
theorem To.open_ {w' : World} (h : To b s ds cv op w w') (op' : Bool) : To b s ds cv op' w (w'.setCell ⟨b, 3, none⟩ (.bool op')) := ⟨h.lx.setOpen op', h.lk.set_ _ _⟩
def hb (i : Nat) : Int := 16 ^ i
theorem hb_succ (i : Nat) : hb (i + 1) = hb i * 16 := by unfold hb; exact Int.pow_succ _ _
theorem hb_le (i : Nat) (h : i ≤ 5) : hb i ≤ 1048576 := by
  have : i = 0 ∨ i = 1 ∨ i = 2 ∨ i = 3 ∨ i = 4 ∨ i = 5 := by omega
  rcases this with rfl | rfl | rfl | rfl | rfl | rfl <;> decide
theorem hb_le6 (i : Nat) (h : i ≤ 6) : hb i ≤ 16777216 := by
  have : i = 0 ∨ i = 1 ∨ i = 2 ∨ i = 3 ∨ i = 4 ∨ i = 5 ∨ i = 6 := by omega
  rcases this with rfl | rfl | rfl | rfl | rfl | rfl | rfl <;> decide
theorem hexv_bd (c : Int) : -1 ≤ hexv c ∧ hexv c ≤ 15 := by
  unfold hexv; repeat' split
  all_goals omega
set_option maxHeartbeats 1600000 in
set_option maxRecDepth 100000 in
theorem escape_any (h : LX b s ds cv op w) : Calls Tryz.prog 63 #[.pointer (some ⟨b, 0, none⟩)] w (EscR b s ds cv op w) := by
  have HL := Lib.hid h
  clear h
  by_cases hx : hexv (pk ds 0) < 0
  · cases he : (pk ds 0 == -1)
    · have HE : Hid (escape ds = (pk ds 0, false, ds.tail)) := by
        show _ = _; unfold escape; rw [if_pos hx, if_neg (by simpa using he)]
      go_enter Tryz.func63, Tryz.ntmps63
      go_wp2_with fail
      refine (peek_z HL.out).mono ?_
      rintro e w1 ⟨rfl, rfl⟩
      go_wp2_with fail
      refine (hex_any _ _).mono ?_
      rintro e w1 ⟨rfl, rfl⟩
      go_wp2_with fail
      refine (take_any HL.out).mono ?_
      rintro e w2 ⟨rfl, ht2⟩
      have HT2 := Lib.hid ht2
      clear ht2
      go_wp2_with fail
      go_ret
      exact ⟨by rw [HE.out]; rfl, by rw [HE.out]; show To b s ds.tail cv (op || false) _ _; rw [Bool.or_false]; exact HT2.out⟩
    · have he' : pk ds 0 = -1 := by simpa using he
      have HE : Hid (escape ds = (65533, true, ds.tail)) := by
        show _ = _; unfold escape; rw [if_pos hx, if_pos he']
      clear he'
      go_enter Tryz.func63, Tryz.ntmps63
      go_wp2_with fail
      refine (peek_z HL.out).mono ?_
      rintro e w1 ⟨rfl, rfl⟩
      go_wp2_with fail
      refine (hex_any _ _).mono ?_
      rintro e w1 ⟨rfl, rfl⟩
      go_wp2_with fail
      refine (take_any HL.out).mono ?_
      rintro e w2 ⟨rfl, ht2⟩
      have HT2 := Lib.hid ht2
      have hc3 := ht2.lx.c3
      have hf3 := ht2.lx.f 3
      clear ht2
      go_wp2_with fail
      go_ret
      refine ⟨by rw [HE.out]; rfl, ?_⟩
      rw [HE.out]; show To b s ds.tail cv (op || true) _ _
      rw [Bool.or_true]
      exact HT2.out.open_ true
  · have hx0 : 0 ≤ hexv (pk ds 0) := by omega
    rename World => w0
    have HX : Hid (0 ≤ hexv (pk ds 0)) := hx0
    go_enter Tryz.func63, Tryz.ntmps63
    go_wp2_with fail
    refine (peek_z HL.out).mono ?_
    rintro e w1 ⟨rfl, rfl⟩
    go_wp2_with fail
    refine (hex_any _ _).mono ?_
    rintro e w1 ⟨rfl, rfl⟩
    go_wp2_with fail
    go_loopg [4, 5] 6 (fun k p4 p5 wr => ∃ (i : Nat) (v : Int) (D : List Int), p4 = .int .i64 v ∧ p5 = .int .i64 i ∧ i + k = 6 ∧ 0 ≤ v ∧ v < hb i ∧ Hid (hexRun k v D = hexRun 6 0 ds) ∧ Hid (To b s D cv op w0 wr))
    case atStart => exact ⟨0, 0, ds, rfl, rfl, rfl, by omega, by decide, rfl, HL.out, Lk.refl _ _⟩
    case round =>
      obtain ⟨i, v, D, rfl, rfl, hik, hv0, hv1, HD, HT⟩ := hrel
      have hb6 := hb_le6 i (by omega)
      have hv2 : v ≤ 16777216 := by omega
      by_cases hgo : (i : Int) < 6 ∧ 0 ≤ hexv (pk D 0)
      · obtain ⟨hi, hh⟩ := hgo
        have hv3 : v ≤ 1048576 := by have := hb_le i (by omega); omega
        have hbd := hexv_bd (pk D 0)
        obtain ⟨c, t, rfl⟩ : ∃ c t, D = c :: t := by
          cases D with
          | nil => exact absurd hh (by decide)
          | cons c t => exact ⟨c, t, rfl⟩
        rw [pk_cons_zero] at hh hbd
        obtain ⟨k', rfl⟩ : ∃ k', gk = k' + 1 := ⟨gk - 1, by omega⟩
        have HN : Hid (hexRun k' (v * 16 + hexv c) t = hexRun 6 0 ds) := by
          have := HD.out
          unfold hexRun at this
          simp only [pk_cons_zero, List.tail_cons] at this
          rw [if_pos hh] at this; exact this
        have HB : Hid (v * 16 + hexv c < hb (i + 1)) := by
          show _ < _; rw [hb_succ]; omega
        clear HD hv1 hb6 hx hx0
        go_wp2_with fail
        refine (peek_z HT.out.lx).mono ?_
        rintro e w1 ⟨rfl, rfl⟩
        go_wp2_with fail
        refine (hex_any _ _).mono ?_
        rintro e w1 ⟨rfl, rfl⟩
        go_wp2_with fail
        refine (take_any HT.out.lx).mono ?_
        rintro e w2 ⟨rfl, ht2⟩
        have HT2 := Lib.hid ht2
        clear ht2
        go_wp2_with fail
        refine (hex_any _ _).mono ?_
        rintro e w1 ⟨rfl, rfl⟩
        go_wp2_with fail
        go_roundg k'
        case measure => omega
        case rel => exact ⟨i + 1, _, t, rfl, by go_num, by omega, by omega, HB.out, HN.out, HT2.out.lx, HT.out.lk.trans HT2.out.lk⟩
      · have hrun : hexRun 6 0 ds = (v, D) := by
          rw [← HD.out]
          cases gk with
          | zero => rfl
          | succ k' =>
            unfold hexRun
            rw [if_neg]
            intro hh; exact hgo ⟨by omega, hh⟩
        have HR := Lib.hid hrun
        have hway : ((i : Int) < 6 ∧ hexv (pk D 0) < 0) ∨ 6 ≤ (i : Int) := by
          by_cases hi : (i : Int) < 6
          · left; refine ⟨hi, ?_⟩
            by_cases hh : 0 ≤ hexv (pk D 0)
            · exact absurd ⟨hi, hh⟩ hgo
            · omega
          · right; omega
        have HE : Hid (escape ds = if isNl (pk D 0) then (fixv v, true, newline D) else if isSp (pk D 0) then (fixv v, false, D.tail) else (fixv v, false, D)) := by
          show _ = _
          unfold escape
          rw [if_neg (by have := HX.out; omega), hrun]
        have hfix : ((v == 0) = true ∧ Hid (fixv v = 65533)) ∨ ((v == 0) = false ∧ 1114111 < v ∧ Hid (fixv v = 65533)) ∨ ((v == 0) = false ∧ v ≤ 1114111 ∧ 55296 ≤ v ∧ v < 57344 ∧ Hid (fixv v = 65533)) ∨ ((v == 0) = false ∧ v < 55296 ∧ Hid (fixv v = v)) ∨ ((v == 0) = false ∧ v ≤ 1114111 ∧ 57344 ≤ v ∧ Hid (fixv v = v)) := by
          have hid : ∀ p : Prop, Hid p = p := fun _ => rfl
          simp only [beq_iff_eq, beq_eq_false_iff_ne, hid]
          unfold fixv
          by_cases c1 : v = 0
          · left; exact ⟨c1, by rw [if_pos (.inl c1)]⟩
          · by_cases c2 : 1114111 < v
            · right; left; exact ⟨c1, c2, by rw [if_pos (by omega)]⟩
            · by_cases c3 : 55296 ≤ v ∧ v < 57344
              · right; right; left; exact ⟨c1, by omega, c3.1, c3.2, by rw [if_pos (by omega)]⟩
              · by_cases c4 : v < 55296
                · right; right; right; left; exact ⟨c1, c4, by rw [if_neg (by omega)]⟩
                · right; right; right; right; exact ⟨c1, by omega, by omega, by rw [if_neg (by omega)]⟩
        clear hrun HD hv1 hb6 hgo hx hx0 hik
        cases hn : nlQ (pk D 0)
        · have hn' : ¬ isNl (pk D 0) := by intro hx; rw [nlQ_iff.2 hx] at hn; cases hn
          cases hsp : spQ (pk D 0)
          · have hsp' : ¬ isSp (pk D 0) := by intro hx; rw [spQ_iff.2 hx] at hsp; cases hsp
            have HF : Hid (escape ds = (fixv v, false, D)) := by show _ = _; rw [HE.out, if_neg hn', if_neg hsp']
            clear hn' hsp' HE
            have HN := Lib.hid hn
            have HS := Lib.hid hsp
            clear hn hsp
            rcases hway with ⟨hi, hh⟩ | hi <;> rcases hfix with ⟨q0, HV⟩ | ⟨q0, q1, HV⟩ | ⟨q0, q1, q2, q3, HV⟩ | ⟨q0, q1, HV⟩ | ⟨q0, q1, q2, HV⟩
            all_goals
              go_wp2_with (first | (go_at_call 59; go_must (refine (peek_z HT.out.lx).mono ?_; rintro e w1 ⟨rfl, rfl⟩)) | (go_at_call 92; go_must (refine (hex_any _ _).mono ?_; rintro e w1 ⟨rfl, rfl⟩)) | (go_at_call 91; go_must (refine (nl_any _ _).mono ?_; rintro e w1 ⟨rfl, rfl⟩; rw [HN.out])) | (go_at_call 64; go_must (refine (sp_any _ _).mono ?_; rintro e w1 ⟨rfl, rfl⟩; rw [HS.out])))
              all_goals
                go_ret
                refine ⟨ret_i64 (b := (escape ds).1) ?_, by rw [HF.out]; show To b s D cv (op || false) _ _; rw [Bool.or_false]; exact HT.out⟩
                rw [HF.out]
                show _ = fixv v
                rw [HV.out]
          · have hsp' := spQ_iff.1 hsp
            have HF : Hid (escape ds = (fixv v, false, D.tail)) := by show _ = _; rw [HE.out, if_neg hn', if_pos hsp']
            clear hn' hsp' HE
            have HN := Lib.hid hn
            have HS := Lib.hid hsp
            clear hn hsp
            rcases hway with ⟨hi, hh⟩ | hi <;> rcases hfix with ⟨q0, HV⟩ | ⟨q0, q1, HV⟩ | ⟨q0, q1, q2, q3, HV⟩ | ⟨q0, q1, HV⟩ | ⟨q0, q1, q2, HV⟩
            all_goals
              go_wp2_with (first | (go_at_call 59; go_must (refine (peek_z HT.out.lx).mono ?_; rintro e w1 ⟨rfl, rfl⟩)) | (go_at_call 92; go_must (refine (hex_any _ _).mono ?_; rintro e w1 ⟨rfl, rfl⟩)) | (go_at_call 91; go_must (refine (nl_any _ _).mono ?_; rintro e w1 ⟨rfl, rfl⟩; rw [HN.out])) | (go_at_call 64; go_must (refine (sp_any _ _).mono ?_; rintro e w1 ⟨rfl, rfl⟩; rw [HS.out])) | (go_at_call 61; go_must (refine (take_any HT.out.lx).mono ?_; rintro e w2 ⟨rfl, ht2⟩; have HT2 := Lib.hid ht2; clear ht2)))
              all_goals
                go_ret
                refine ⟨ret_i64 (b := (escape ds).1) ?_, by rw [HF.out]; show To b s D.tail cv (op || false) _ _; rw [Bool.or_false]; exact ⟨HT2.out.lx, HT.out.lk.trans HT2.out.lk⟩⟩
                rw [HF.out]
                show _ = fixv v
                rw [HV.out]
        · have hn' := nlQ_iff.1 hn
          have HF : Hid (escape ds = (fixv v, true, newline D)) := by show _ = _; rw [HE.out, if_pos hn']
          clear hn' HE
          have HN := Lib.hid hn
          clear hn
          have HTo : Hid (To b s D cv true w0 (wr.setCell ⟨b, 3, none⟩ (.bool true))) := HT.out.open_ true
          have hc3 := HT.out.lx.c3
          have hf3 := HT.out.lx.f 3
          rcases hway with ⟨hi, hh⟩ | hi <;> rcases hfix with ⟨q0, HV⟩ | ⟨q0, q1, HV⟩ | ⟨q0, q1, q2, q3, HV⟩ | ⟨q0, q1, HV⟩ | ⟨q0, q1, q2, HV⟩
          all_goals
            go_wp2_with (first | (go_at_call 59; go_must (refine (peek_z HT.out.lx).mono ?_; rintro e w1 ⟨rfl, rfl⟩)) | (go_at_call 92; go_must (refine (hex_any _ _).mono ?_; rintro e w1 ⟨rfl, rfl⟩)) | (go_at_call 91; go_must (refine (nl_any _ _).mono ?_; rintro e w1 ⟨rfl, rfl⟩; rw [HN.out])) | (go_at_call 93; go_must (refine (newline_any HTo.out.lx).mono ?_; rintro e w2 ⟨rfl, ht2⟩; have HT2 := Lib.hid ht2; clear ht2)))
            all_goals
              go_ret
              refine ⟨ret_i64 (b := (escape ds).1) ?_, by rw [HF.out]; show To b s (newline D) cv (op || true) _ _; rw [Bool.or_true]; exact ⟨HT2.out.lx, HTo.out.lk.trans HT2.out.lk⟩⟩
              rw [HF.out]
              show _ = fixv v
              rw [HV.out]
end
end Go.Proofs.YtkfdcbdlcipmfaaGreatFmt
namespace Go.Proofs.YtkfdcbdlcipmfaaGreatFmt
open Go.RowKit Css
def Rng (c : Int) : Prop := -2 ≤ c ∧ c ≤ 1114111
theorem dec_rng (l : List UInt8) : ∀ c ∈ dec l, Rng c := by
  fun_induction dec l with
  | case1 => simp
  | case2 x t ih =>
    intro c hc
    simp at hc
    rcases hc with rfl | hc
    · rcases runeL_inv x t with h | ⟨c, R, h, _, h0, h1, _⟩
      · rw [h]; exact ⟨by decide, by decide⟩
      · rw [h]; exact ⟨by show -2 ≤ c; omega, h1⟩
    · exact ih c hc
theorem suf_rng {s : ByteArray} {ds : List Int} (h : Suf s ds) : ∀ c ∈ ds, Rng c := by
  obtain ⟨X, h⟩ := h
  intro c hc
  exact dec_rng _ c (by rw [h]; simp [hc])
theorem pk_rng {ds : List Int} (h : ∀ c ∈ ds, Rng c) (k : Nat) : Rng (pk ds k) := by
  by_cases hk : k < ds.length
  · exact h _ (pk_mem hk)
  · have : pk ds k = -1 := by unfold pk; simp [List.getD_eq_getElem?_getD, List.getElem?_eq_none (Nat.le_of_not_lt hk)]
    rw [this]; exact ⟨by decide, by decide⟩
theorem escape_rng {ds : List Int} (h : ∀ c ∈ ds, Rng c) : Rng (escape ds).1 := by
  have hf : ∀ v, 0 ≤ v → Rng (fixv v) := by
    intro v hv; unfold fixv; split
    · exact ⟨by decide, by decide⟩
    · exact ⟨by omega, by omega⟩
  have hr : ∀ (n : Nat) (v : Int) (D : List Int), 0 ≤ v → 0 ≤ (hexRun n v D).1 := by
    intro n
    induction n with
    | zero => intro v D hv; exact hv
    | succ n ih =>
      intro v D hv
      unfold hexRun
      split
      · exact ih _ _ (by omega)
      · exact hv
  unfold escape
  repeat' split
  · exact ⟨by show (-2 : Int) ≤ 65533; decide, by show (65533 : Int) ≤ 1114111; decide⟩
  · exact pk_rng h 0
  · exact hf _ (hr _ _ _ (by decide))
  · exact hf _ (hr _ _ _ (by decide))
  · exact hf _ (hr _ _ _ (by decide))
theorem bsOf_app (a b : List UInt8) : bsOf a ++ bsOf b = bsOf (a ++ b) := by
  apply ByteArray.ext
  simp [bsOf]
theorem len_le_bw (l : List Int) : l.length ≤ bw l := by
  induction l with
  | nil => exact Nat.le_refl _
  | cons c t ih => have := (wd_pos c).1; simp [bw]; omega
theorem suf_len {s : ByteArray} {ds : List Int} (h : Suf s ds) : ds.length ≤ s.size := Nat.le_trans (len_le_bw ds) h.bw_le
theorem enc_snoc (o : List Int) (c : Int) : enc (o ++ [c]) = enc o ++ enc1 c := by rw [enc_append]; simp [enc]
section
variable {b : Nat} {s : ByteArray} {ds : List Int} {cv : Value} {op : Bool} {w : World}
def NameR (b : Nat) (s : ByteArray) (ds : List Int) (cv : Value) (op : Bool) (w : World) (e : Ending) (w' : World) : Prop :=
  e = .returned (.string (bsOf (enc (name ds).1))) ∧ To b s (name ds).2.2 cv (op || (name ds).2.1) w w'
structure NameI (b : Nat) (s : ByteArray) (ds : List Int) (cv : Value) (op : Bool) (w0 : World) (o D : List Int) (op' : Bool) (wr : World) : Prop where
  text : o ++ (name D).1 = (name ds).1
  rest : (name D).2.2 = (name ds).2.2
  opn : (op' || (name D).2.1) = (op || (name ds).2.1)
  lex : To b s D cv op' w0 wr
  size : (enc o).length + 4 * D.length ≤ 4 * ds.length
theorem NameI.sum {b : Nat} {s : ByteArray} {ds : List Int} {cv : Value} {op : Bool} {w0 : World} {o D : List Int} {op' : Bool} {wr : World} (h : NameI b s ds cv op w0 o D op' wr) (hs : ds.length ≤ s.size) (hpos : 0 < D.length) (c : Int) :
    (bsOf (enc o)).size + (bsOf (enc1 c)).size ≤ 1125899906842624 := by
  rw [bsOf_size, bsOf_size, enc1_length]
  have := (wd_pos c).2
  have := h.size
  have := h.lex.lx.small
  omega
theorem To.below {w' w'' : World} (h : To b s ds cv op w w') (hb : Below w'.heap.size w' w'') : To b s ds cv op w w'' := ⟨h.lx.below hb, h.lk.trans (.of_below hb)⟩
theorem To.then {w' w'' : World} {ds' : List Int} {op' : Bool} (h : To b s ds cv op w w') (k : To b s ds' cv op' w' w'') : To b s ds' cv op' w w'' := ⟨k.lx, h.lk.trans k.lk⟩
set_option maxHeartbeats 1600000 in
set_option maxRecDepth 100000 in
theorem name_any (h : LX b s ds cv op w) : Calls Tryz.prog 47 #[.pointer (some ⟨b, 0, none⟩)] w (NameR b s ds cv op w) := by
  have HL := Lib.hid h
  clear h
  have HLEN := Lib.hid (suf_len HL.out.suf)
  rename World => w0
  go_enter Tryz.func47, Tryz.ntmps47
  go_wp2_with fail
  go_loopg [3] ds.length (fun k p3 wr => ∃ (o D : List Int) (op' : Bool), p3 = .string (bsOf (enc o)) ∧ D.length = k ∧ Hid (NameI b s ds cv op w0 o D op' wr))
  case atStart => exact ⟨[], ds, op, rfl, rfl, rfl, rfl, rfl, ⟨HL.out, Lk.refl _ _⟩, by simp⟩
  case round =>
    obtain ⟨o, D, op', rfl, hD, HI⟩ := hrel
    have hrng := suf_rng HI.out.lex.lx.suf
    have HR := Lib.hid hrng
    clear hrng
    go_wp2_with fail
    refine (peek_z HI.out.lex.lx).mono ?_
    rintro e w1 ⟨rfl, rfl⟩
    go_wp2_with fail
    refine (cn_any _ _).mono ?_
    rintro e w1 ⟨rfl, rfl⟩
    cases hc : cnQ (pk D 0)
    · have hc' : ¬ cont (pk D 0) := by intro hx; rw [cnQ_iff.2 hx] at hc; cases hc
      have HC := Lib.hid hc'
      clear hc'
      go_wp2_with fail
      refine (peek_z HI.out.lex.lx).mono ?_
      rintro e w1 ⟨rfl, rfl⟩
      go_wp2_with fail
      refine (peek_1 HI.out.lex.lx).mono ?_
      rintro e w1 ⟨rfl, rfl⟩
      go_wp2_with fail
      refine (es_any _ _ _).mono ?_
      rintro e w1 ⟨rfl, rfl⟩
      cases he : esQ (pk D 0) (pk D 1)
      · have he' : ¬ esc (pk D 0) (pk D 1) := by intro hx; rw [esQ_iff.2 hx] at he; cases he
        have HN : Hid (name D = ([], false, D)) := by
          show _ = _; rw [name, dif_neg HC.out, dif_neg he']
        clear he'
        go_wp2_with fail
        go_ret
        have hI := HI.out
        refine ⟨?_, ?_⟩
        · have := hI.text
          rw [HN.out, List.append_nil] at this
          rw [← this]; rfl
        · rw [← hI.rest, ← hI.opn, HN.out]
          show To b s D cv (op' || false) _ _
          rw [Bool.or_false]; exact hI.lex
      · have he' := esQ_iff.1 he
        obtain ⟨c, t, rfl⟩ : ∃ c t, D = c :: t := by
          cases D with
          | nil => have := he'.1; simp at this
          | cons c t => exact ⟨c, t, rfl⟩
        have HN : Hid (name (c :: t) = ((escape t).1 :: (name (escape t).2.2).1, (escape t).2.1 || (name (escape t).2.2).2.1, (name (escape t).2.2).2.2)) := by
          show _ = _; rw [name, dif_neg HC.out, dif_pos he']; rfl
        clear he'
        go_wp2_with fail
        refine (take_any HI.out.lex.lx).mono ?_
        rintro e w2 ⟨rfl, ht2⟩
        have HT2 := Lib.hid ht2
        clear ht2
        go_wp2_with fail
        refine (escape_any HT2.out.lx).mono ?_
        rintro e w3 ⟨rfl, ht3⟩
        have HT3 := Lib.hid ht3
        clear ht3
        go_wp2_with fail
        have hr := escape_rng (ds := t) (fun x hx => HR.out x (by simp [hx]))
        refine (encoded_any _ hr.1 hr.2 _).mono ?_
        rintro e w4 ⟨rfl, hb4⟩
        have HB4 := Lib.hid hb4
        clear hb4 hr
        have hsum := HI.out.sum HLEN.out (by simp) (escape t).1
        go_wp2_with fail
        go_roundg (escape t).2.2.length
        case measure => have := escape_len t; simp at hD; omega
        case rel =>
          refine ⟨o ++ [(escape t).1], _, _, ?_, rfl, ?_, ?_, ?_, (HI.out.lex.then HT2.out |>.then HT3.out).below HB4.out, ?_⟩
          · rw [bsOf_app, ← enc_snoc]
          · rw [← HI.out.text, HN.out]; simp
          · rw [← HI.out.rest, HN.out]
          · rw [← HI.out.opn, HN.out]; simp [Bool.or_assoc]
          · have h1 := HI.out.size
            have h2 := escape_len t
            rw [enc_snoc, List.length_append, enc1_length]
            have := (wd_pos (escape t).1).2
            simp at h1; omega
    · have hc' := cnQ_iff.1 hc
      obtain ⟨c, t, rfl⟩ : ∃ c t, D = c :: t := by
        cases D with
        | nil => exact absurd hc' (by decide)
        | cons c t => exact ⟨c, t, rfl⟩
      have HN : Hid (name (c :: t) = (c :: (name t).1, (name t).2.1, (name t).2.2)) := by
        show _ = _; rw [name, dif_pos hc']; rfl
      clear hc'
      go_wp2_with fail
      refine (take_any HI.out.lex.lx).mono ?_
      rintro e w2 ⟨rfl, ht2⟩
      have HT2 := Lib.hid ht2
      clear ht2
      go_wp2_with fail
      have hr := HR.out c (by simp)
      refine (encoded_any _ hr.1 hr.2 _).mono ?_
      rintro e w4 ⟨rfl, hb4⟩
      have HB4 := Lib.hid hb4
      clear hb4 hr
      have hsum := HI.out.sum HLEN.out (by simp) c
      go_wp2_with fail
      go_roundg t.length
      case measure => simp at hD; omega
      case rel =>
        refine ⟨o ++ [c], _, _, ?_, rfl, ?_, ?_, ?_, (HI.out.lex.then HT2.out).below HB4.out, ?_⟩
        · rw [bsOf_app, ← enc_snoc]
        · rw [← HI.out.text, HN.out]; simp
        · rw [← HI.out.rest, HN.out]
        · rw [← HI.out.opn, HN.out]
        · have h1 := HI.out.size
          rw [enc_snoc, List.length_append, enc1_length]
          have := (wd_pos c).2
          simp at h1 ⊢; omega
end
end Go.Proofs.YtkfdcbdlcipmfaaGreatFmt
