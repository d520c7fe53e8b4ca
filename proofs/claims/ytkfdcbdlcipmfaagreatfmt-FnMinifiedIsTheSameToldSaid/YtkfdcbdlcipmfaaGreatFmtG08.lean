/- Walks: the reference's predicates over two and three code points; the value of a hexadecimal digit; what opens. -/
import Derived.Test.YtkfdcbdlcipmfaaGreatFmtG05
import Derived.Test.YtkfdcbdlcipmfaaGreatFmtG03
set_option linter.unusedVariables false
set_option linter.unusedSimpArgs false
namespace Go.Proofs.YtkfdcbdlcipmfaaGreatFmt
open Go.RowKit Css

theorem idQ_eq (a b c : Int) : idQ a b c = if a = 45 then (stQ b || b == 45 || esQ b c) else (stQ a || esQ a b) := by
  rw [Bool.eq_iff_iff, idQ_iff]; unfold ident3
  split <;> simp [*, stQ_iff, esQ_iff, or_assoc]
theorem n2Q_eq (a b : Int) : n2Q a b = (dgQ a || (a == 46 && dgQ b)) := by
  rw [Bool.eq_iff_iff, n2Q_iff]; unfold num2; simp [dgQ_iff]
theorem coQ_eq (a b c : Int) : coQ a b c = if a = 43 ∨ a = 45 then n2Q b c else n2Q a b := by
  rw [Bool.eq_iff_iff, coQ_iff]; unfold counts
  split <;> simp [*, n2Q_iff]

set_option maxHeartbeats 1600000 in
set_option maxRecDepth 100000 in
theorem id_any (a b c : Int) (w : World) : Calls Tryz.prog 67 #[.int .i64 a, .int .i64 b, .int .i64 c] w (RetB (idQ a b c) w) := by
  have hq := idQ_eq a b c
  by_cases ha : a = 45
  · rw [if_pos ha] at hq
    subst ha
    have HQ := Lib.hid hq
    clear hq
    cases h : stQ b
    · have H := Lib.hid h
      clear h
      cases hb : (b == 45)
      · cases h2 : esQ b c
        all_goals
          have H2 := Lib.hid h2
          clear h2
          go_enter Tryz.func67, Tryz.ntmps67
          go_wp2_with (first | (go_at_call 89; go_must (refine (st_any _ _).mono ?_; rintro e w' ⟨rfl, rfl⟩; rw [H.out])) | (go_at_call 62; go_must (refine (es_any _ _ _).mono ?_; rintro e w' ⟨rfl, rfl⟩; rw [H2.out])))
          all_goals
            go_ret
            exact RetB.mk' (by rw [HQ.out, H.out, H2.out, hb]; rfl)
      · have hb2 : b = 45 := by simpa using hb
        subst hb2
        go_enter Tryz.func67, Tryz.ntmps67
        go_wp2_with (go_at_call 89; go_must (refine (st_any _ _).mono ?_; rintro e w' ⟨rfl, rfl⟩; rw [H.out]))
        all_goals
          go_ret
          exact RetB.mk' (by rw [HQ.out, H.out]; rfl)
    · have H := Lib.hid h
      clear h
      go_enter Tryz.func67, Tryz.ntmps67
      go_wp2_with (go_at_call 89; go_must (refine (st_any _ _).mono ?_; rintro e w' ⟨rfl, rfl⟩; rw [H.out]))
      all_goals
        go_ret
        exact RetB.mk' (by rw [HQ.out, H.out]; rfl)
  · rw [if_neg ha] at hq
    have ha2 : (a == 45) = false := by simpa using ha
    have HQ := Lib.hid hq
    clear hq ha
    cases h : stQ a
    · have H := Lib.hid h
      clear h
      cases h2 : esQ a b
      all_goals
        have H2 := Lib.hid h2
        clear h2
        go_enter Tryz.func67, Tryz.ntmps67
        go_wp2_with (first | (go_at_call 89; go_must (refine (st_any _ _).mono ?_; rintro e w' ⟨rfl, rfl⟩; rw [H.out])) | (go_at_call 62; go_must (refine (es_any _ _ _).mono ?_; rintro e w' ⟨rfl, rfl⟩; rw [H2.out])))
        all_goals
          go_ret
          exact RetB.mk' (by rw [HQ.out, H.out, H2.out]; rfl)
    · have H := Lib.hid h
      clear h
      go_enter Tryz.func67, Tryz.ntmps67
      go_wp2_with (go_at_call 89; go_must (refine (st_any _ _).mono ?_; rintro e w' ⟨rfl, rfl⟩; rw [H.out]))
      all_goals
        go_ret
        exact RetB.mk' (by rw [HQ.out, H.out]; rfl)
set_option maxHeartbeats 1600000 in
set_option maxRecDepth 100000 in
theorem co_any (a b c : Int) (w : World) : Calls Tryz.prog 68 #[.int .i64 a, .int .i64 b, .int .i64 c] w (RetB (coQ a b c) w) := by
  have key : ∀ x y : Int, ((a = 43 ∨ a = 45) → x = b ∧ y = c) → (¬ (a = 43 ∨ a = 45) → x = a ∧ y = b) → coQ a b c = n2Q x y := by
    intro x y h1 h2
    rw [coQ_eq]
    split
    · rename_i h; rw [(h1 h).1, (h1 h).2]
    · rename_i h; rw [(h2 h).1, (h2 h).2]
  have main : ∀ x y : Int, ((a = 43 ∨ a = 45) → x = b ∧ y = c) → (¬ (a = 43 ∨ a = 45) → x = a ∧ y = b) → Calls Tryz.prog 68 #[.int .i64 a, .int .i64 b, .int .i64 c] w (RetB (n2Q x y) w) := by
    intro x y hx1 hx2
    by_cases ha : a = 43 ∨ a = 45
    · obtain ⟨rfl, rfl⟩ := hx1 ha
      clear hx1 hx2 key
      have HQ := Lib.hid (n2Q_eq x y)
      cases h : dgQ x
      · have H := Lib.hid h
        clear h
        cases hd : (x == 46)
        · rcases ha with rfl | rfl
          all_goals
            go_enter Tryz.func68, Tryz.ntmps68
            go_wp2_with (go_at_call 90; go_must (refine (dg_any _ _).mono ?_; rintro e w' ⟨rfl, rfl⟩; rw [H.out]))
            all_goals
              go_ret
              exact RetB.mk' (by rw [HQ.out, H.out, hd]; rfl)
        · have hd2 : x = 46 := by simpa using hd
          subst hd2
          cases h2 : dgQ y
          all_goals
            have H2 := Lib.hid h2
            clear h2
            rcases ha with rfl | rfl
            all_goals
              go_enter Tryz.func68, Tryz.ntmps68
              go_wp2_with fail
              refine (dg_any _ _).mono ?_
              rintro e w' ⟨rfl, rfl⟩
              rw [H.out]
              go_wp2_with fail
              refine (dg_any _ _).mono ?_
              rintro e w' ⟨rfl, rfl⟩
              rw [H2.out]
              go_wp2_with fail
              all_goals
                go_ret
                exact RetB.mk' (by rw [HQ.out, H.out, H2.out]; rfl)
      · have H := Lib.hid h
        clear h
        rcases ha with rfl | rfl
        all_goals
          go_enter Tryz.func68, Tryz.ntmps68
          go_wp2_with (go_at_call 90; go_must (refine (dg_any _ _).mono ?_; rintro e w' ⟨rfl, rfl⟩; rw [H.out]))
          all_goals
            go_ret
            exact RetB.mk' (by rw [HQ.out, H.out]; rfl)
    · obtain ⟨rfl, rfl⟩ := hx2 ha
      have ha1 : (x == 43) = false := by simp; omega
      have ha2 : (x == 45) = false := by simp; omega
      clear hx1 hx2 key ha
      have HQ := Lib.hid (n2Q_eq x y)
      cases h : dgQ x
      · have H := Lib.hid h
        clear h
        cases hd : (x == 46)
        · go_enter Tryz.func68, Tryz.ntmps68
          go_wp2_with (go_at_call 90; go_must (refine (dg_any _ _).mono ?_; rintro e w' ⟨rfl, rfl⟩; rw [H.out]))
          all_goals
            go_ret
            exact RetB.mk' (by rw [HQ.out, H.out, hd]; rfl)
        · have hd2 : x = 46 := by simpa using hd
          subst hd2
          cases h2 : dgQ y
          all_goals
            have H2 := Lib.hid h2
            clear h2
            go_enter Tryz.func68, Tryz.ntmps68
            go_wp2_with fail
            refine (dg_any _ _).mono ?_
            rintro e w' ⟨rfl, rfl⟩
            rw [H.out]
            go_wp2_with fail
            refine (dg_any _ _).mono ?_
            rintro e w' ⟨rfl, rfl⟩
            rw [H2.out]
            go_wp2_with fail
            all_goals
              go_ret
              exact RetB.mk' (by rw [HQ.out, H.out, H2.out]; rfl)
      · have H := Lib.hid h
        clear h
        go_enter Tryz.func68, Tryz.ntmps68
        go_wp2_with (go_at_call 90; go_must (refine (dg_any _ _).mono ?_; rintro e w' ⟨rfl, rfl⟩; rw [H.out]))
        all_goals
          go_ret
          exact RetB.mk' (by rw [HQ.out, H.out]; rfl)
  by_cases ha : a = 43 ∨ a = 45
  · rw [key b c (fun _ => ⟨rfl, rfl⟩) (fun h => absurd ha h)]
    exact main b c (fun _ => ⟨rfl, rfl⟩) (fun h => absurd ha h)
  · rw [key a b (fun h => absurd h ha) (fun _ => ⟨rfl, rfl⟩)]
    exact main a b (fun h => absurd h ha) (fun _ => ⟨rfl, rfl⟩)
def RetI (i : Int) (w : World) (e : Ending) (w' : World) : Prop := e = .returned (.int .i64 i) ∧ w = w'
theorem RetI.mk' {a b : Int} {w : World} (h : a = b) : RetI b w (.returned (.int .i64 a)) w := ⟨by rw [h], rfl⟩
set_option maxHeartbeats 1600000 in
set_option maxRecDepth 100000 in
theorem hex_any (c : Int) (w : World) : Calls Tryz.prog 92 #[.int .i64 c] w (RetI (hexv c) w) := by
  cases h : dgQ c
  · have hd : ¬ (48 ≤ c ∧ c ≤ 57) := by intro hx; rw [dgQ_iff.2 hx] at h; cases h
    have H := Lib.hid h
    have HD := Lib.hid hd
    clear h hd
    by_cases h1 : 97 ≤ c ∧ c ≤ 102
    · obtain ⟨h1, h2⟩ := h1
      go_enter Tryz.func92, Tryz.ntmps92
      go_wp2_with (go_at_call 90; go_must (refine (dg_any _ _).mono ?_; rintro e w' ⟨rfl, rfl⟩; rw [H.out]))
      go_ret
      exact RetI.mk' (by unfold hexv; rw [if_neg HD.out, if_pos ⟨h1, h2⟩])
    · by_cases h2 : 65 ≤ c ∧ c ≤ 70
      · obtain ⟨h2, h3⟩ := h2
        have h4 : c < 97 := by omega
        go_enter Tryz.func92, Tryz.ntmps92
        go_wp2_with (go_at_call 90; go_must (refine (dg_any _ _).mono ?_; rintro e w' ⟨rfl, rfl⟩; rw [H.out]))
        go_ret
        exact RetI.mk' (by unfold hexv; rw [if_neg HD.out, if_neg (by omega), if_pos ⟨h2, h3⟩])
      · have HX : Hid (hexv c = -1) := by show _ = _; unfold hexv; rw [if_neg HD.out, if_neg h1, if_neg h2]
        go_enter Tryz.func92, Tryz.ntmps92
        go_wp2_with (go_at_call 90; go_must (refine (dg_any _ _).mono ?_; rintro e w' ⟨rfl, rfl⟩; rw [H.out]))
        all_goals
          first
          | (exfalso; omega)
          | (go_ret
             exact RetI.mk' HX.out.symm)
  · have hd : 48 ≤ c ∧ c ≤ 57 := dgQ_iff.1 h
    have H := Lib.hid h
    clear h
    obtain ⟨h1, h2⟩ := hd
    go_enter Tryz.func92, Tryz.ntmps92
    go_wp2_with (go_at_call 90; go_must (refine (dg_any _ _).mono ?_; rintro e w' ⟨rfl, rfl⟩; rw [H.out]))
    go_ret
    exact RetI.mk' (by unfold hexv; rw [if_pos ⟨h1, h2⟩])
end Go.Proofs.YtkfdcbdlcipmfaaGreatFmt
/- Walks: printWithEscape, a backslash ahead. -/
namespace Go.Proofs.YtkfdcbdlcipmfaaGreatFmt
open Go.RowKit Css
open Go.Extern.Stop Go.Stop Go.Extern

set_option maxHeartbeats 1600000 in
set_option maxRecDepth 100000 in
theorem pwe_slash0 (B g : Nat) (mini asc : Bool) (c : Int) (hv : Valid c) (hr : c < 48 ∨ (58 ≤ c ∧ c < 65) ∨ (71 ≤ c ∧ c < 97) ∨ 103 ≤ c) (s : ByteArray) (may : Bool) (w : World) (bs : List UInt8) (v : Value) (H : At B g mini asc bs v w) (hl : bs.length + 16 ≤ 140737488355328) :
    Calls Tryz.prog 103 #[.pointer (some ⟨g, 0, none⟩), .int .i32 c, .int .u8 1, .string s, .bool may] w fun e w' => e = .returned (.tuple #[]) ∧ Put B g mini asc (bs ++ (92 :: enc1 c)) w w' := by
  have hgl := H.pr.lt
  have hB := H.base
  have HA0 := Lib.hid (H.alloc tmpO)
  have hc : (w.alloc tmpO).cell? ⟨g, 15, none⟩ = some v := HA0.out.pr.css
  have hf : (w.alloc tmpO).frozen? ⟨g, 15, none⟩ = false := HA0.out.pr.free
  have HV := Lib.hid hv
  clear hv H
  rcases hr with hr | hr | hr | hr
  all_goals
    go_enter Tryz.func103, Tryz.ntmps103
    go_wp2_with (first | (at_builtin; go_must (refine wpList_put1 rfl _ _ rfl HA0.out 92 rfl _ rfl ?hb (bs.length + 1) rfl (by omega) ?_; (case hb => simp); intro q cap w1 hp1 hat hke; have hc1 := hp1.css; have hf1 := hp1.free; clear hp1; have HAT := Lib.hid hat; clear hat; have HKE := Lib.hid hke; clear hke)) | (go_at_call 133; go_must (refine (encode_any _ _ HV.out _ (tmp_after HKE.out hgl).1 (tmp_after HKE.out hgl).2).mono ?_; rintro e w2 ⟨rfl, hw2⟩; have HW := Lib.hid hw2; clear hw2)))
    have HA := Lib.hid (after_encode c ⟨HAT.out.st, HKE.out⟩ hB hgl HW.out)
    clear HW HAT HKE hc1 hf1
    obtain ⟨v2, H2⟩ := HA.out.1.st.at_
    have hc2 := H2.pr.css
    have hf2 := H2.pr.free
    have HAT2 := Lib.hid H2
    clear H2
    have hwd := (wd_pos c).2
    have hwd0 := (wd_pos c).1
    have hwd2 : (wd c : Int) ≤ 4 := by omega
    have hwd3 : 0 ≤ (wd c : Int) := by omega
    go_region_law (refine step_put rfl _ _ rfl HAT2.out (enc1 c) (wd c) w.heap.size (enc1_length c) hwd0 HA.out.2 rfl 4 rfl (bs.length + 1 + wd c) (by rw [List.length_append]; rfl) (by rw [List.length_append]; show bs.length + 1 + _ ≤ _; omega) ?_; intro q2 cap2 w3 hp3 hat3 hke3; have hc3 := hp3.css; have hf3 := hp3.free; clear hp3; have HAT3 := Lib.hid hat3; clear hat3; have HKE3 := Lib.hid hke3; clear hke3)
    go_wp2
    go_end0
    refine ⟨rfl, ?_⟩
    have := HA.out.1.trans ⟨HAT3.out.st, HKE3.out⟩
    rw [List.append_assoc] at this
    exact this
end Go.Proofs.YtkfdcbdlcipmfaaGreatFmt
/- Walks: printWithEscape, hexadecimal digits, at the end of a text. -/
namespace Go.Proofs.YtkfdcbdlcipmfaaGreatFmt
open Go.RowKit Css
open Go.Extern.Stop Go.Stop Go.Extern

def spB8 (b : Bool) : List UInt8 := if b then [32] else []
theorem runeLen_wd (c : Int) (hv : Valid c) : Lib.runeLen c = (wd c : Nat) := by
  unfold Valid at hv; unfold Lib.runeLen wd
  repeat' split
  all_goals first | rfl | omega
theorem runeLen_any (c : Int) (hv : Valid c) (w : World) : Calls Tryz.prog 116 #[.int .i32 c] w fun e w' => e = .returned (.int .i64 (wd c : Nat)) ∧ w = w' := by
  refine (Tryz.utf8_RuneLen c w).mono ?_
  rintro e w' ⟨he, hw⟩
  exact ⟨by rw [he, runeLen_wd c hv], hw.symm⟩

set_option maxHeartbeats 1600000 in
set_option maxRecDepth 100000 in
theorem pwe_hexE (F : Interp) (B g : Nat) (mini asc : Bool) (c : Int) (hv : Valid c) (e : Int) (he : e = 2 ∨ (e = 1 ∧ 48 ≤ c ∧ c ≤ 57)) (hT : (hexT F c).size ≤ 6) (s : ByteArray) (hsz : s.size = wd c) (may : Bool) (w : World) (bs : List UInt8) (v : Value) (H : At B g mini asc bs v w) (hl : bs.length + 16 ≤ 140737488355328) (hF : F.told.answers w.tape) :
    Calls Tryz.prog 103 #[.pointer (some ⟨g, 0, none⟩), .int .i32 c, .int .u8 e, .string s, .bool may] w fun e w' => e = .returned (.tuple #[]) ∧ Put B g mini asc (bs ++ ((hexT F c).data.toList ++ spB8 may)) w w' := by
  have hB := H.base
  have HA0 := Lib.hid ((H.alloc tmpO).alloc (.cells #[.iface 21 (.int .i32 c)] 20))
  have hc : ((w.alloc tmpO).alloc (.cells #[.iface 21 (.int .i32 c)] 20)).cell? ⟨g, 15, none⟩ = some v := HA0.out.pr.css
  have hf : ((w.alloc tmpO).alloc (.cells #[.iface 21 (.int .i32 c)] 20)).frozen? ⟨g, 15, none⟩ = false := HA0.out.pr.free
  have HKE0 : Hid (Ke B g w ((w.alloc tmpO).alloc (.cells #[.iface 21 (.int .i32 c)] 20))) := ((Ke.refl B g w).alloc hB _).alloc (by simp; omega) _
  have HV := Lib.hid hv
  have hsp := sprintf_run F c (w.alloc tmpO) (w.heap.size + 1) (by simp) hF
  have hnlt : ¬ ((wd c : Int) < (s.size : Int)) := by omega
  have hnlt2 : ¬ (wd c < s.size) := by omega
  generalize hTe : hexT F c = T at hsp hT ⊢
  clear hv H hF hsz hTe
  have hT2 : (T.size : Int) < 7 := by omega
  rcases he with rfl | ⟨rfl, h1, h2⟩
  all_goals
    cases may
    all_goals
      go_enter Tryz.func103, Tryz.ntmps103
      go_wp2_with (first | (at_builtin; refine wpList_puts rfl _ _ rfl (HA0.out.drew) T rfl rfl (bs.length + T.size) rfl (by omega) ?_; intro A1 cap w1 hp1 hat hke; have hc1 := hp1.css; have hf1 := hp1.free; clear hp1; have HAT := Lib.hid hat; have hca := hat.pr.css; have hfa := hat.pr.free; clear hat; have HKE := Lib.hid hke; clear hke) | (at_builtin; go_must (refine wpList_put1 rfl _ _ rfl HAT.out 32 rfl _ rfl ?hb (bs.length + T.size + 1) ?hn ?hl ?_; (case hb => simp [World.setCell]); (case hn => rw [List.length_append]; rfl); (case hl => rw [List.length_append]; show bs.length + T.size + 1 ≤ _; omega); intro q2 cap2 w2 hp2 hat2 hke2; have hc2 := hp2.css; have hf2 := hp2.free; clear hp2; have HAT2 := Lib.hid hat2; clear hat2; have HKE2 := Lib.hid hke2; clear hke2)) | (go_at_call 116; go_must (refine (runeLen_any _ HV.out _).mono ?_; rintro e w' ⟨rfl, rfl⟩)))
      go_end0
      refine ⟨rfl, ?_⟩
      first
        | (refine ⟨?_, HKE0.out.trans ((Ke.of_drew HKE.out).trans HKE2.out)⟩; have := HAT2.out.st; rw [List.append_assoc] at this; exact this)
        | (refine ⟨?_, HKE0.out.trans (Ke.of_drew HKE.out)⟩; have := HAT.out.st; rw [show spB8 false = [] from rfl, List.append_nil]; exact this)
end Go.Proofs.YtkfdcbdlcipmfaaGreatFmt
