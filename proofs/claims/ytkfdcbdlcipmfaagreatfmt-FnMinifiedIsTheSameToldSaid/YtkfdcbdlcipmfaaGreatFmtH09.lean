/- Walks: printWithEscape, hexadecimal digits, ahead of another byte. -/
import Derived.Test.YtkfdcbdlcipmfaaGreatFmtH08
import Derived.Deep.Light
set_option linter.unusedVariables false
set_option linter.unusedSimpArgs false
namespace Go.Proofs.YtkfdcbdlcipmfaaGreatFmt
open Go.RowKit Css
open Go.Extern.Stop Go.Stop Go.Extern
def WantP (b : Int) : Prop := b = 32 ∨ b = 9 ∨ (48 ≤ b ∧ b ≤ 57) ∨ (97 ≤ b ∧ b ≤ 102) ∨ (65 ≤ b ∧ b ≤ 70)
instance (b : Int) : Decidable (WantP b) := by unfold WantP; infer_instance
def wantB (b : Int) : Bool := decide (WantP b)
theorem wantB_t {b : Int} (h : b = 32 ∨ b = 9 ∨ (48 ≤ b ∧ b ≤ 57) ∨ (97 ≤ b ∧ b ≤ 102) ∨ (65 ≤ b ∧ b ≤ 70)) : wantB b = true := decide_eq_true h
theorem wantB_f {b : Int} (h : ¬ (b = 32 ∨ b = 9 ∨ (48 ≤ b ∧ b ≤ 57) ∨ (97 ≤ b ∧ b ≤ 102) ∨ (65 ≤ b ∧ b ≤ 70))) : wantB b = false := decide_eq_false h
theorem wantB_iff {b : Int} : wantB b = true ↔ (b = 32 ∨ b = 9 ∨ (48 ≤ b ∧ b ≤ 57) ∨ (97 ≤ b ∧ b ≤ 102) ∨ (65 ≤ b ∧ b ≤ 70)) := decide_eq_true_iff
set_option maxHeartbeats 4000000 in
set_option maxRecDepth 100000 in
theorem pwe_hexN (F : Interp) (B g : Nat) (mini asc : Bool) (c : Int) (hv : Valid c) (e : Int) (p : Bool) (he : (p = false ∧ e = 2) ∨ (p = true ∧ e = 1 ∧ 48 ≤ c ∧ c ≤ 57)) (hT : (hexT F c).size ≤ 6) (s : ByteArray) (hsz : wd c < s.size) (b : Int) (hx : ∀ h : wd c < s.size, ((s[wd c]'h).toNat : Int) = b) (hb0 : 0 ≤ b) (hb1 : b ≤ 255) (may : Bool) (w : World) (bs : List UInt8) (v : Value) (H : At B g mini asc bs v w) (hl : bs.length + 16 ≤ 140737488355328) (hF : F.told.answers w.tape) :
    Calls Tryz.prog 103 #[.pointer (some ⟨g, 0, none⟩), .int .i32 c, .int .u8 e, .string s, .bool may] w fun e w' => e = .returned (.tuple #[]) ∧ Put B g mini asc (bs ++ ((hexT F c).data.toList ++ spB8 (wantB b))) w w' := by
  have hB := H.base
  have HA0 := Lib.hid ((H.alloc tmpO).alloc (.cells #[.iface 21 (.int .i32 c)] 20))
  have hc : ((w.alloc tmpO).alloc (.cells #[.iface 21 (.int .i32 c)] 20)).cell? ⟨g, 15, none⟩ = some v := HA0.out.pr.css
  have hf : ((w.alloc tmpO).alloc (.cells #[.iface 21 (.int .i32 c)] 20)).frozen? ⟨g, 15, none⟩ = false := HA0.out.pr.free
  have HKE0 : Hid (Ke B g w ((w.alloc tmpO).alloc (.cells #[.iface 21 (.int .i32 c)] 20))) := ((Ke.refl B g w).alloc hB _).alloc (by simp; omega) _
  have HV := Lib.hid hv
  have hsp := sprintf_run F c (w.alloc tmpO) (w.heap.size + 1) (by simp) hF
  have hlt : (wd c : Int) < (s.size : Int) := by omega
  have hpos : 0 ≤ (wd c : Int) := by omega
  generalize hTe : hexT F c = T at hsp hT ⊢
  clear hv H hF hTe
  have hT2 : (T.size : Int) < 7 := by omega
  have HE := Lib.hid he
  clear he
  go_enter Tryz.func103, Tryz.ntmps103
  go_upto_region 1 with (fail)
  go_cut [40] (fun x wx => x = .bool p ∧ wx = w.alloc tmpO)
  case first =>
    rcases HE.out with ⟨h3, h4⟩ | ⟨h3, h4, h5, h6⟩
    · have q1 : (e == 1) = false := by simp; omega
      clear h4 HA0 HKE0 HV hsp hc hf hlt hpos hT2 hT hl hB HE hx
      go_wp2_with fail
      go_meet
      exact ⟨by rw [h3], rfl⟩
    · have q1 : (e == 1) = true := by simp; omega
      clear h4 HA0 HKE0 HV hsp hc hf hlt hpos hT2 hT hl hB HE hx
      go_wp2_with fail
      go_meet
      exact ⟨by rw [h3], rfl⟩
  case rest =>
   obtain ⟨rfl, rfl⟩ := hcut
   go_upto_if 40 with (fail)
   go_cut [2] (fun x wx => x = .int .u8 2 ∧ wx = w.alloc tmpO)
   case first =>
    clear HA0 HKE0 HV hsp hc hf hlt hpos hT2 hT hl hB hx
    have H4 : Hid (p = false → e = 2) := by
      rcases HE.out with ⟨h3, h4⟩ | ⟨h3, h4⟩
      · exact fun _ => h4
      · intro h; rw [h3] at h; cases h
    clear HE
    cases hp : p
    · go_wp2_with fail
      go_meet
      exact ⟨by rw [H4.out hp], rfl⟩
    · go_wp2_with fail
      go_meet
      exact ⟨rfl, rfl⟩
   case rest =>
    obtain ⟨rfl, rfl⟩ := hcut
    clear HE
    go_upto_region 18 with (first | (at_builtin; refine wpList_puts rfl _ _ rfl (HA0.out.drew) T rfl rfl (bs.length + T.size) rfl (by omega) ?_; intro A1 cap w1 hp1 hat hke; have hc1 := hp1.css; have hf1 := hp1.free; clear hp1; have HAT := Lib.hid hat; have hca := hat.pr.css; have hfa := hat.pr.free; clear hat; have HKE := Lib.hid hke; clear hke) | (go_at_call 116; go_must (refine (runeLen_any _ HV.out _).mono ?_; rintro e w' ⟨rfl, rfl⟩)))
    go_cut [1, 138] (fun y x wx => y = .int .i32 b ∧ x = .bool (wantB b) ∧ wx = w1.setCell ⟨g, 15, none⟩ (.slice A1 (bs.length + T.size) cap))
    case first =>
      clear HA0 HKE0 HV HAT HKE hsp hc hf hc1 hf1 hca hfa hlt hpos hT2 hT hl hB hx
      go_wp2_with fail
      all_goals
        go_meet
        go_light
        refine ⟨by first | rfl | (congr 1; omega), ?_, rfl⟩
        congr 1
        first
          | exact (wantB_t (by omega)).symm
          | exact (wantB_f (by omega)).symm
          | (rw [Bool.eq_iff_iff, wantB_iff]; simp; omega)
          | trace_state
    case rest =>
      obtain ⟨rfl, rfl, rfl⟩ := hcut
      cases hw : wantB b
      · go_wp2_with fail
        go_end0
        exact ⟨rfl, ⟨by have := HAT.out.st; rw [hw, show spB8 false = [] from rfl, List.append_nil]; exact this, HKE0.out.trans (Ke.of_drew HKE.out)⟩⟩
      · go_wp2_with (at_builtin; go_must (refine wpList_put1 rfl _ _ rfl HAT.out 32 rfl _ rfl ?hb (bs.length + T.size + 1) ?hn ?hl ?_; (case hb => simp [World.setCell]); (case hn => rw [List.length_append]; rfl); (case hl => rw [List.length_append]; show bs.length + T.size + 1 ≤ _; omega); intro q2 cap2 w2 hp2 hat2 hke2; have hc2 := hp2.css; have hf2 := hp2.free; clear hp2; have HAT2 := Lib.hid hat2; clear hat2; have HKE2 := Lib.hid hke2; clear hke2))
        go_end0
        exact ⟨rfl, ⟨by have := HAT2.out.st; rw [List.append_assoc] at this; rw [hw]; exact this, HKE0.out.trans ((Ke.of_drew HKE.out).trans HKE2.out)⟩⟩
end Go.Proofs.YtkfdcbdlcipmfaaGreatFmt
