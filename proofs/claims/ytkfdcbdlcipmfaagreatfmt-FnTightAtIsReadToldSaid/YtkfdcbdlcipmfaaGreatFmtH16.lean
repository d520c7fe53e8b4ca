/- Walks: printQuotedWithQuote. -/
import Derived.Test.YtkfdcbdlcipmfaaGreatFmtH15
import Derived.Deep.Light
set_option linter.unusedVariables false
set_option linter.unusedSimpArgs false
namespace Go.Proofs.YtkfdcbdlcipmfaaGreatFmt
open Go.RowKit Css Go.Stop
open Go.Extern.Stop Go.Extern
section
variable {ops : Array Oper} {rest : List Oper} {o : Oper} {a : Act} {Q : Exit → Act → World → Prop}
theorem wpList_putI (hgd : o.guard = none) (s x : Operand) (ho : o.op = .call { callee := .builtin .append, args := #[s, x], argTypes := #[117, 117] })
    {B g : Nat} {mini asc : Bool} {bs : List UInt8} {v : Value} {w : World} (H : At B g mini asc bs v w) (q : Int) (h0 : 0 ≤ q) (h1 : q ≤ 255)
    (hs : a.eval s = v) (b : Nat) (hx : a.eval x = .slice (some ⟨b, 0, none⟩) 1 1) (hb : b = w.heap.size) (n : Nat) (hn : n = bs.length + 1) (hl : bs.length + 1 ≤ 140737488355328)
    (h : ∀ q' cap w', PR B g mini asc v w' → At B g mini asc (bs ++ [by8 q]) (.slice (some ⟨q', 0, none⟩) n cap) (w'.setCell ⟨g, 15, none⟩ (.slice (some ⟨q', 0, none⟩) n cap)) → Ke B g w (w'.setCell ⟨g, 15, none⟩ (.slice (some ⟨q', 0, none⟩) n cap)) → wpList Tryz.prog ops Q rest (a.put o.dst (.slice (some ⟨q', 0, none⟩) n cap)) w') :
    wpList Tryz.prog ops Q (o :: rest) a (w.alloc (.cells #[.int .u8 q] 5)) := by
  have e := by8_nat (c := q) h0 (by omega)
  have := wpList_put1 (ops := ops) (rest := rest) (Q := Q) hgd s x ho H (by8 q) hs b hx hb n hn hl h
  rw [e] at this
  exact this
end
variable {F : Go.Stop.Interp} {W0 w w' : World}
theorem isnl_no {c : Int} (h : isNl c) (h0 : ¬ c = 13) (h1 : ¬ c = 10) (h2 : ¬ c = 12) : False := by unfold isNl at h; omega
def PutQ (B g : Nat) (mini asc : Bool) (q : Int) (cs : List Int) (bs : List UInt8) (w w' : World) : Prop :=
  ∃ out, StrOut q asc cs out ∧ (enc out).length ≤ 16 * cs.length ∧ Put B g mini asc (bs ++ enc (q :: (out ++ [q]))) w w'
set_option maxHeartbeats 80000000 in
set_option maxRecDepth 100000 in
theorem pq_any (g : Nat) (mini asc : Bool) (q : Int) (hq : q = 34 ∨ q = 39) (fl : Int) (cs : List Int) (hv : AllV cs) (hlow : asc = true → ∀ c ∈ cs, c < 1048576) (s : ByteArray) (h : s.data.toList = enc cs) (hss : s.size ≤ 2147483647) (w : World) (hE : Env F W0 w) (bs : List UInt8) (hst : St W0.heap.size g mini asc bs w) (hl : bs.length + 16 * cs.length + 64 ≤ 140737488355328) :
    Calls Tryz.prog 76 #[.pointer (some ⟨g, 0, none⟩), .string s, .int .u8 q, .int .u8 fl] w fun e' w' => e' = .returned (.tuple #[]) ∧ PutQ W0.heap.size g mini asc q cs bs w w' := by
  have HE := Lib.hid hE
  have HH := Lib.hid h
  have HV := Lib.hid hv
  have HST := Lib.hid hst
  have HL := Lib.hid hl
  have HSS := Lib.hid hss
  have HLOW := Lib.hid hlow
  have HQ := Lib.hid hq
  have hq0 : (q == 0) = false := by simp; omega
  have hq00 : 0 ≤ q := by omega
  have hq255 : q ≤ 255 := by omega
  obtain ⟨v, hat⟩ := hst.at_
  have HAT := Lib.hid hat
  have hc := hat.pr.css
  have hf := hat.pr.free
  have hlim := hat.pr.lim
  clear hat hE h hv hst hl hss hlow hq
  go_enter Tryz.func76, Tryz.ntmps76
  go_upto_region 7 with (at_builtin; go_must (refine wpList_putI rfl _ _ rfl HAT.out q (by rcases HQ.out with h | h <;> omega) (by rcases HQ.out with h | h <;> omega) rfl _ rfl ?hb (bs.length + 1) rfl ?hl ?_; (case hb => simp [World.setCell]); (case hl => have := HL.out; omega); intro q2 cap2 w2 hp2 hat2 hke2; have hc2 := hp2.css; have hf2 := hp2.free; clear hp2; have HAT2 := Lib.hid hat2; clear hat2; have HKE2 := Lib.hid hke2; clear hke2))
  have hat2 := HAT2.out
  generalize hW1 : w2.setCell ⟨g, 15, none⟩ (.slice (some ⟨q2, 0, none⟩) (bs.length + 1) cap2) = W1 at HAT2 HKE2 ⊢
  generalize (Value.slice (some ⟨q2, 0, none⟩) (bs.length + 1) cap2) = v2 at HAT2 ⊢
  have hlim := HAT2.out.pr.lim
  have HS1 : Hid (St W0.heap.size g mini asc (bs ++ [by8 q]) W1) := HAT2.out.st
  clear hW1 hc hf hc2 hf2 HAT2
  go_wp2_with fail
  go_loopg [9, 10] cs.length (fun k p9 p10 wr => ∃ (A R pre : List Int) (bs' : List UInt8) (rs : Nat), p9 = .int .i64 ((enc A).length : Nat) ∧ p10 = .int .i64 (rs : Nat) ∧ rs ≤ (enc A).length ∧ R.length = k ∧ Hid (A ++ R = cs ∧ (∀ o, StrOut q asc R o → StrOut q asc cs (pre ++ o)) ∧ bs' ++ (s.data.toList.take (enc A).length).drop rs = bs ++ [by8 q] ++ enc pre ∧ (enc pre).length ≤ 16 * A.length) ∧ Hid (St W0.heap.size g mini asc bs' wr) ∧ Hid (Ke W0.heap.size g w wr))
  case atStart => exact ⟨[], cs, [], bs ++ [by8 q], 0, rfl, rfl, Nat.le_refl _, rfl, ⟨rfl, fun o h => h, by simp [enc], by simp [enc]⟩, HS1.out, HKE2.out⟩
  case round =>
    obtain ⟨A, R, pre, bs', rs, rfl, rfl, hrs, hk, HA, HS, HK⟩ := hrel
    clear HS1 HKE2 hlim
    cases R with
    | nil =>
      have hAcs : A = cs := by have := HA.out.1; rwa [List.append_nil] at this
      have hpe : (enc A).length = s.size := by rw [hAcs, size_enc HH.out]
      have HPE := Lib.hid hpe
      rw [hpe] at hrs ⊢
      have HENQ : Hid (enc (q :: (pre ++ [q])) = [by8 q] ++ enc pre ++ [by8 q]) := by
        have e1 : enc1 q = [by8 q] := by unfold enc1; rw [if_pos (by have := HQ.out; omega)]
        show _ = _
        rw [enc_cons, enc_append, enc_cons, e1]; simp [enc]
      have HSO : Hid (StrOut q asc cs pre) := by have := HA.out.2.1 [] StrOut.nil; rw [List.append_nil] at this; exact this
      have HPL : Hid ((enc pre).length ≤ 16 * cs.length) := by have := HA.out.2.2.2; rw [hAcs] at this; exact this
      have HTK : Hid (s.data.toList.take s.size = s.data.toList) := List.take_of_length_le (Nat.le_refl _)
      have HEQ : Hid (bs' ++ s.data.toList.drop rs = bs ++ [by8 q] ++ enc pre) := by have := HA.out.2.2.1; rw [HPE.out, HTK.out] at this; exact this
      have HLB : Hid (bs'.length + (s.size - rs) + 32 ≤ 140737488355328) := by
        have h1 := congrArg List.length HEQ.out
        have h2 := HL.out
        have h3 := HPL.out
        have e : s.data.toList.length = s.size := rfl
        simp only [List.length_append, List.length_cons, List.length_nil, List.length_drop] at h1
        show _ ≤ _
        omega
      obtain ⟨vc, hatc⟩ := HS.out.at_
      have HATc := Lib.hid hatc
      have hc := hatc.pr.css
      have hf := hatc.pr.free
      clear hatc hAcs hpe
      by_cases hrp : (rs : Int) < (s.size : Int)
      · go_wp2_with fail
        go_region_law (refine step_puts rfl _ _ rfl HATc.out (s.extract rs s.size) rfl rfl (bs'.length + (s.size - rs)) (by rw [size_enc (Lib.extract_to_end s rs), List.length_drop]; have e : s.data.toList.length = s.size := rfl; omega) (by have := HLB.out; rw [size_enc (Lib.extract_to_end s rs), List.length_drop]; have e : s.data.toList.length = s.size := rfl; omega) ?_; intro A4 cap4 w4 hp4 hat4 hke4; have hc4 := hp4.css; have hf4 := hp4.free; clear hp4; have HAT4 := Lib.hid hat4; have hc5 := hat4.pr.css; have hf5 := hat4.pr.free; clear hat4; have HKE4 := Lib.hid hke4; clear hke4)
        go_wp2_with (at_builtin; go_must (refine wpList_putI rfl _ _ rfl HAT4.out q (by rcases HQ.out with h | h <;> omega) (by rcases HQ.out with h | h <;> omega) rfl _ rfl ?hb (bs'.length + (s.size - rs) + 1) ?hn ?hl ?_; (case hb => simp [World.setCell]); (case hn => rw [List.length_append, Lib.extract_to_end, List.length_drop]; rfl); (case hl => rw [List.length_append, Lib.extract_to_end, List.length_drop]; have := HLB.out; have e : s.data.toList.length = s.size := rfl; omega); intro q6 cap6 w6 hp6 hat6 hke6; have hc6 := hp6.css; have hf6 := hp6.free; clear hp6; have HAT6 := Lib.hid hat6; clear hat6; have HKE6 := Lib.hid hke6; clear hke6))
        go_end0
        refine ⟨rfl, pre, HSO.out, HPL.out, ?_, (HK.out.trans HKE4.out).trans HKE6.out⟩
        rw [HENQ.out, ← List.append_assoc, ← List.append_assoc, ← HEQ.out, ← Lib.extract_to_end]
        exact HAT6.out.st
      · have hrs2 : rs = s.size := by omega
        have HRS := Lib.hid hrs2
        clear hrs2
        go_wp2_with (at_builtin; go_must (refine wpList_putI rfl _ _ rfl HATc.out q (by rcases HQ.out with h | h <;> omega) (by rcases HQ.out with h | h <;> omega) rfl _ rfl ?hb (bs'.length + 1) rfl ?hl ?_; (case hb => simp [World.setCell]); (case hl => have := HLB.out; omega); intro q6 cap6 w6 hp6 hat6 hke6; have hc6 := hp6.css; have hf6 := hp6.free; clear hp6; have HAT6 := Lib.hid hat6; clear hat6; have HKE6 := Lib.hid hke6; clear hke6))
        go_end0
        refine ⟨rfl, pre, HSO.out, HPL.out, ?_, HK.out.trans HKE6.out⟩
        have := HEQ.out
        rw [HRS.out, List.drop_eq_nil_of_le (show s.data.toList.length ≤ s.size from Nat.le_refl _), List.append_nil] at this
        rw [HENQ.out, ← List.append_assoc, ← List.append_assoc, ← this]
        exact HAT6.out.st
    | cons c t =>
      have hvc : Valid c := HV.out c (by rw [← HA.out.1]; simp)
      have hvt : AllV t := fun x hx => HV.out x (by rw [← HA.out.1]; simp [hx])
      have hs2 : s.data.toList = enc A ++ (enc1 c ++ enc t) := by rw [HH.out, ← HA.out.1, enc_append, enc_cons]
      have hsz : s.size = (enc A).length + (wd c + (enc t).length) := by rw [size_enc hs2, List.length_append, List.length_append, enc1_length]
      have hwd := wd_pos c
      have hcl : asc = true → c < 1048576 := fun ha => HLOW.out ha c (by rw [← HA.out.1]; simp)
      have HCL := Lib.hid hcl
      have hext : (s.extract (enc A).length s.size).data.toList = enc (c :: t) := by rw [enc_cons]; exact extract_enc hs2 _ rfl
      have HX := Lib.hid hext
      have HVC := Lib.hid hvc
      have HVT := Lib.hid hvt
      have HS2 := Lib.hid hs2
      have HSZ := Lib.hid hsz
      have HENV := Lib.hid (HE.out.ke HK.out)
      have hc1 : 1 ≤ c := hvc.1
      have hp1 : ((enc A).length : Int) < (s.size : Int) := by omega
      have hp0 : (0 : Int) ≤ ((enc A).length : Int) := by omega
      have hpb : ((enc A).length : Int) ≤ 2147483647 := by have := HSS.out; omega
      have hrsi : (rs : Int) ≤ ((enc A).length : Int) := by omega
      have hrs0 : (0 : Int) ≤ (rs : Int) := by omega
      clear hcl hext hvc hvt hs2 hsz hrs
      generalize hpA : (enc A).length = p at *
      have HPA := Lib.hid hpA
      clear hpA
      go_upto_block 2 with (go_at_call 100; go_must (refine (dec_cons _ c t HVC.out HX.out _ HENV.out.tabs).mono ?_; rintro e' W2 ⟨rfl, hb2⟩; have HB2 := Lib.hid hb2; clear hb2))
      have HSW := Lib.hid (HS.out.grow HB2.out)
      have HEW := Lib.hid (HENV.out.below HB2.out)
      have HKW : Hid (Ke W0.heap.size g w W2) := HK.out.trans (Ke.of_below HB2.out HS.out.base)
      obtain ⟨v3, hat3⟩ := HSW.out.at_
      have hasc := hat3.pr.asc
      have hfeat := hat3.pr.feat
      clear hat3
      go_cut [15] (fun x wx => ∃ E : Nat, x = .int .u8 (E : Int) ∧ Hid (QOk asc q E c) ∧ Hid (Below W2.heap.size W2 wx))
      case first =>
        as_aux_lemma =>
          clear HS HK HENV HB2 HPA HSZ HS2 HX HA
          cases k0 : (c == 13)
          · have n0 : ¬ (c = 13) := by simpa using k0
            have N0 := Lib.hid n0
            clear n0
            cases k1 : (c == 10)
            · have n1 : ¬ (c = 10) := by simpa using k1
              have N1 := Lib.hid n1
              clear n1
              cases k2 : (c == 12)
              · have n2 : ¬ (c = 12) := by simpa using k2
                have N2 := Lib.hid n2
                clear n2
                cases k3 : (c == 92)
                · have n3 : ¬ (c = 92) := by simpa using k3
                  have N3 := Lib.hid n3
                  clear n3
                  cases k4 : (c == q)
                  · have n4 : ¬ (c = q) := by simpa using k4
                    have N4 := Lib.hid n4
                    clear n4
                    cases k5 : (c == 40)
                    · have n5 : ¬ (c = 40) := by simpa using k5
                      have N5 := Lib.hid n5
                      clear n5
                      cases k6 : (c == 41)
                      · have n6 : ¬ (c = 41) := by simpa using k6
                        have N6 := Lib.hid n6
                        clear n6
                        cases k7 : (c == 32)
                        · have n7 : ¬ (c = 32) := by simpa using k7
                          have N7 := Lib.hid n7
                          clear n7
                          cases k8 : (c == 9)
                          · have n8 : ¬ (c = 9) := by simpa using k8
                            have N8 := Lib.hid n8
                            clear n8
                            cases k9 : (c == 34)
                            · have n9 : ¬ (c = 34) := by simpa using k9
                              have N9 := Lib.hid n9
                              clear n9
                              cases k10 : (c == 39)
                              · have n10 : ¬ (c = 39) := by simpa using k10
                                have N10 := Lib.hid n10
                                clear n10
                                cases k11 : (c == 47)
                                · have n11 : ¬ (c = 47) := by simpa using k11
                                  have N11 := Lib.hid n11
                                  clear n11
                                  cases kz : (c == 65279)
                                  · have nz : ¬ (c = 65279) := by simpa using kz
                                    have NZ := Lib.hid nz
                                    clear nz
                                    cases ha : asc
                                    · rw [ha] at hasc
                                      go_wp2_with fail
                                      go_meet
                                      exact ⟨0, rfl, by rw [ha]; exact .inl ⟨rfl, N4.out, N3.out, (fun h => isnl_no h N0.out N1.out N2.out), (fun h => by cases h), NZ.out⟩, Below.refl _ _⟩
                                    · rw [ha] at hasc
                                      by_cases h128 : c < 128
                                      · go_wp2_with fail
                                        go_meet
                                        exact ⟨0, rfl, by rw [ha]; exact .inl ⟨rfl, N4.out, N3.out, (fun h => isnl_no h N0.out N1.out N2.out), (fun _ => h128), NZ.out⟩, Below.refl _ _⟩
                                      · go_wp2_with fail
                                        go_meet
                                        exact ⟨2, rfl, by rw [ha]; exact .inr (.inr ⟨rfl, .inr (.inr ⟨rfl, by omega⟩)⟩), Below.refl _ _⟩
                                  · have y : c = 65279 := by simpa using kz
                                    have Y := Lib.hid y
                                    clear y
                                    cases ha : asc
                                    · rw [ha] at hasc
                                      go_wp2_with fail
                                      all_goals
                                        go_meet
                                        exact ⟨2, rfl, .inr (.inr ⟨rfl, .inr (.inl Y.out)⟩), Below.refl _ _⟩
                                    · rw [ha] at hasc
                                      go_wp2_with fail
                                      all_goals
                                        go_meet
                                        exact ⟨2, rfl, .inr (.inr ⟨rfl, .inr (.inl Y.out)⟩), Below.refl _ _⟩
                                · have y : c = 47 := by simpa using k11
                                  have Y := Lib.hid y
                                  clear y
                                  have HQ0 : Hid (QOk asc q 0 c) := .inl ⟨rfl, N4.out, N3.out, (fun h => isnl_no h N0.out N1.out N2.out), (fun _ => by have := Y.out; omega), (by have := Y.out; omega)⟩
                                  have HQ1 : Hid (QOk asc q 1 c) := .inr (.inl ⟨rfl, .inr (.inr Y.out)⟩)
                                  clear hasc
                                  by_cases hpz : (1 : Int) ≤ (p : Int)
                                  · obtain ⟨pm, hpm⟩ : ∃ pm : Nat, (p : Int) - 1 = (pm : Int) := ⟨p - 1, by omega⟩
                                    have hpm0 : (0 : Int) ≤ (pm : Int) := by omega
                                    have hpm1 : (pm : Int) < (s.size : Int) := by omega
                                    have hx := bt_get s pm
                                    have hbr := bt_range s pm
                                    generalize bt s pm = b at hx hbr
                                    cases hb60 : (b == 60)
                                    · go_wp2_with (go_at_call 101; go_must (refine (has_style _).mono ?_; rintro e' w5 ⟨rfl, rfl⟩))
                                      go_meet
                                      exact ⟨0, rfl, HQ0, Below.refl _ _⟩
                                    · by_cases hp6 : (p : Int) + 6 ≤ (s.size : Int)
                                      · obtain ⟨pa, hpa⟩ : ∃ pa : Nat, (p : Int) + 1 = (pa : Int) := ⟨p + 1, by omega⟩
                                        obtain ⟨pb, hpb6⟩ : ∃ pb : Nat, (p : Int) + 6 = (pb : Int) := ⟨p + 6, by omega⟩
                                        have hab : pa ≤ pb := by omega
                                        have hbn : pb ≤ s.size := by omega
                                        have H5 : Hid ((s.extract pa pb).size = 5) := by
                                          show _ = _
                                          rw [size_enc (extract_list s pa pb), List.length_drop, List.length_take]
                                          have e : s.data.toList.length = s.size := rfl
                                          omega
                                        go_wp2_with (first | (go_at_call 101; go_must (refine (has_style _).mono ?_; rintro e' w5 ⟨rfl, rfl⟩)) | (go_at_call 102; go_must (refine (fold_lit _ H5.out _ HEW.out).mono ?_; rintro e' w5 ⟨⟨bb, rfl⟩, hb5⟩; have HB5 := Lib.hid hb5; clear hb5; cases bb)))
                                        all_goals
                                          go_wp2_with fail
                                          go_meet
                                          first
                                            | exact ⟨0, rfl, HQ0, HB5⟩
                                            | exact ⟨1, rfl, HQ1, HB5⟩
                                      · go_wp2_with (go_at_call 101; go_must (refine (has_style _).mono ?_; rintro e' w5 ⟨rfl, rfl⟩))
                                        go_meet
                                        exact ⟨0, rfl, HQ0, Below.refl _ _⟩
                                  · go_wp2_with (go_at_call 101; go_must (refine (has_style _).mono ?_; rintro e' w5 ⟨rfl, rfl⟩))
                                    go_meet
                                    exact ⟨0, rfl, HQ0, Below.refl _ _⟩
                              · have y : c = 39 := by simpa using k10
                                have Y := Lib.hid y
                                clear y
                                go_wp2_with fail
                                go_meet
                                exact ⟨0, rfl, .inl ⟨rfl, N4.out, N3.out, (fun h => isnl_no h N0.out N1.out N2.out), (fun _ => by have := Y.out; omega), (by have := Y.out; omega)⟩, Below.refl _ _⟩
                            · have y : c = 34 := by simpa using k9
                              have Y := Lib.hid y
                              clear y
                              go_wp2_with fail
                              go_meet
                              exact ⟨0, rfl, .inl ⟨rfl, N4.out, N3.out, (fun h => isnl_no h N0.out N1.out N2.out), (fun _ => by have := Y.out; omega), (by have := Y.out; omega)⟩, Below.refl _ _⟩
                          · have y : c = 9 := by simpa using k8
                            have Y := Lib.hid y
                            clear y
                            go_wp2_with fail
                            go_meet
                            exact ⟨0, rfl, .inl ⟨rfl, N4.out, N3.out, (fun h => isnl_no h N0.out N1.out N2.out), (fun _ => by have := Y.out; omega), (by have := Y.out; omega)⟩, Below.refl _ _⟩
                        · have y : c = 32 := by simpa using k7
                          have Y := Lib.hid y
                          clear y
                          go_wp2_with fail
                          go_meet
                          exact ⟨0, rfl, .inl ⟨rfl, N4.out, N3.out, (fun h => isnl_no h N0.out N1.out N2.out), (fun _ => by have := Y.out; omega), (by have := Y.out; omega)⟩, Below.refl _ _⟩
                      · have y : c = 41 := by simpa using k6
                        have Y := Lib.hid y
                        clear y
                        go_wp2_with fail
                        go_meet
                        exact ⟨0, rfl, .inl ⟨rfl, N4.out, N3.out, (fun h => isnl_no h N0.out N1.out N2.out), (fun _ => by have := Y.out; omega), (by have := Y.out; omega)⟩, Below.refl _ _⟩
                    · have y : c = 40 := by simpa using k5
                      have Y := Lib.hid y
                      clear y
                      go_wp2_with fail
                      go_meet
                      exact ⟨0, rfl, .inl ⟨rfl, N4.out, N3.out, (fun h => isnl_no h N0.out N1.out N2.out), (fun _ => by have := Y.out; omega), (by have := Y.out; omega)⟩, Below.refl _ _⟩
                  · have y : c = q := by simpa using k4
                    have Y := Lib.hid y
                    clear y
                    go_wp2_with fail
                    go_meet
                    exact ⟨1, rfl, .inr (.inl ⟨rfl, .inl Y.out⟩), Below.refl _ _⟩
                · have y : c = 92 := by simpa using k3
                  have Y := Lib.hid y
                  clear y
                  go_wp2_with fail
                  go_meet
                  exact ⟨1, rfl, .inr (.inl ⟨rfl, .inr (.inl Y.out)⟩), Below.refl _ _⟩
              · have y : c = 12 := by simpa using k2
                have Y := Lib.hid y
                clear y
                go_wp2_with fail
                go_meet
                exact ⟨2, rfl, .inr (.inr ⟨rfl, .inl (by have := Y.out; unfold isNl; omega)⟩), Below.refl _ _⟩
            · have y : c = 10 := by simpa using k1
              have Y := Lib.hid y
              clear y
              go_wp2_with fail
              go_meet
              exact ⟨2, rfl, .inr (.inr ⟨rfl, .inl (by have := Y.out; unfold isNl; omega)⟩), Below.refl _ _⟩
          · have y : c = 13 := by simpa using k0
            have Y := Lib.hid y
            clear y
            go_wp2_with fail
            go_meet
            exact ⟨2, rfl, .inr (.inr ⟨rfl, .inl (by have := Y.out; unfold isNl; omega)⟩), Below.refl _ _⟩
      case rest =>
        as_aux_lemma =>
          obtain ⟨E, rfl, HQE, HBE⟩ := hcut
          clear hasc hfeat
          have HSc := Lib.hid (HSW.out.grow HBE.out)
          have HKc : Hid (Ke W0.heap.size g w wc) := HKW.out.trans (Ke.of_below HBE.out HSW.out.base)
          have HEc := Lib.hid (HEW.out.below HBE.out)
          have hpw : wrap64 ((p : Int) + (wd c : Int)) = ((p + wd c : Nat) : Int) := by
            go_light
            unfold wrap64; omega
          have HP2 : Hid ((enc (A ++ [c])).length = p + wd c) := by
            show _ = _
            rw [enc_append, List.length_append, HPA.out, enc_length_cons]; simp [enc]
          have hk2 : t.length < gk := by go_light; simp at hk; omega
          have HK2 := Lib.hid hk2
          have HPRE : Hid (∀ o, StrOut q asc t o → StrOut q asc cs ((pre ++ escOut E c t false) ++ o)) := fun o ho => by
            rw [List.append_assoc]; exact HA.out.2.1 _ (qok_out HQ.out HQE.out HCL.out ho)
          have HLENP : Hid ((enc (pre ++ escOut E c t false)).length ≤ 16 * (A ++ [c]).length) := by
            have h1 := HA.out.2.2.2
            have h2 := qok_len (asc := asc) (q := q) (E := E) (t := t) HVC.out
            show _ ≤ _
            rw [enc_append, List.length_append, List.length_append]; simp; omega
          have HACS : Hid ((A ++ [c]) ++ t = cs) := by show _ = _; rw [← HA.out.1]; simp
          have HSEG : Hid ((s.data.toList.take (p + wd c)).drop rs = (s.data.toList.take p).drop rs ++ enc1 c) := by
            have := seg_more HS2.out (rs := rs) (by rw [HPA.out]; omega)
            rw [enc1_length, HPA.out] at this; exact this
          have HLB : Hid (bs'.length + ((s.data.toList.take p).drop rs).length + 32 ≤ 140737488355328) := by
            have h1 := congrArg List.length HA.out.2.2.1
            have h2 := HL.out
            have h3 := HA.out.2.2.2
            have h4 : A.length ≤ cs.length := by rw [← HA.out.1]; simp
            simp only [List.length_append, List.length_cons, List.length_nil] at h1
            show _ ≤ _
            omega
          clear hk hk2 hwd
          rcases Nat.eq_zero_or_pos E with hE0 | hE0
          · have HE0 := Lib.hid hE0
            have he : ((E : Int) == 0) = true ∧ ((E : Int) != 0) = false := by subst hE0; exact ⟨rfl, rfl⟩
            generalize (E : Int) = Ei at he ⊢
            obtain ⟨he1, he2⟩ := he
            clear hE0
            go_wp2_with fail
            go_roundg t.length
            case measure => exact HK2.out
            case rel =>
              have hE := HE0.out
              subst hE
              refine ⟨A ++ [c], t, pre ++ escOut 0 c t false, bs', rs, by rw [HP2.out]; first | rfl | exact congrArg (Value.int .i64) hpw, rfl, by rw [HP2.out]; omega, rfl, ⟨HACS.out, HPRE.out, ?_, HLENP.out⟩, HSc.out, HKc.out⟩
              rw [HP2.out, HSEG.out, ← List.append_assoc, HA.out.2.2.1, enc_append, List.append_assoc]
              congr 1
              show _ = enc pre ++ enc [c]
              rw [enc_cons]; simp [enc]
          · have he : ((E : Int) == 0) = false ∧ ((E : Int) != 0) = true := by
              refine ⟨?_, ?_⟩ <;> simp <;> omega
            obtain ⟨he1, he2⟩ := he
            clear hE0
            have HE3 : Hid (E ≤ 2 ∧ (E = 1 → ¬ (65 ≤ c ∧ c ≤ 70) ∧ ¬ (97 ≤ c ∧ c ≤ 102)) ∧ (E = 2 → c < 1048576)) := by
              have h1 := HQ.out
              rcases HQE.out with ⟨rfl, _⟩ | ⟨rfl, h⟩ | ⟨rfl, h⟩
              · exact ⟨by omega, by omega, by omega⟩
              · exact ⟨by omega, fun _ => by omega, by omega⟩
              · refine ⟨by omega, by omega, fun _ => ?_⟩
                rcases h with h | h | h
                · unfold isNl at h; omega
                · omega
                · exact HCL.out h.1
            obtain ⟨vc, hatc⟩ := HSc.out.at_
            have HATc := Lib.hid hatc
            have hc := hatc.pr.css
            have hf := hatc.pr.free
            clear hatc
            have hpn : p ≤ s.size := by go_light; omega
            have hrn : rs ≤ p := by go_light; omega
            have HPW := Lib.hid hpw
            clear hpw
            by_cases hrp : (rs : Int) < (p : Int)
            · have hpni : (p : Int) ≤ (s.size : Int) := by go_light; omega
              have hz1 : bs'.length + (p - rs) = bs'.length + (s.extract rs p).size := by
                go_light
                rw [size_enc (extract_list s rs p), List.length_drop, List.length_take]; have e : s.data.toList.length = s.size := rfl; omega
              have hz2 : bs'.length + (s.extract rs p).size ≤ 140737488355328 := by
                have h1 := HLB.out
                go_light
                rw [size_enc (extract_list s rs p)]; omega
              have HZ1 := Lib.hid hz1
              have HZ2 := Lib.hid hz2
              clear hz1 hz2
              go_upto_region 45 with (fail)
              refine puts_region HATc.out s rs p hrn hpn HZ2.out _ HZ1.out _ _ rfl rfl rfl rfl rfl ?_
              intro A4 cap4 W4 hat4 hke4
              have HAT4 := Lib.hid hat4
              have HKE4 := Lib.hid hke4
              clear hat4 hke4 hc hf
              simp only [List.setIfInBounds_toArray, List.set_cons_zero, List.set_cons_succ]
              go_wp2_with (go_at_call 103; go_must (refine (pwe_any F W0.heap.size g mini asc c t HVC.out HVT.out E HE3.out.1 HE3.out.2.1 HE3.out.2.2 _ HX.out false false (fun _ _ => rfl) _ (bs' ++ (s.extract rs p).data.toList) HAT4.out.st (by go_light; have := HLB.out; rw [List.length_append, extract_list]; omega) ((HEc.out.ke HKE4.out).tape)).mono ?_; rintro e' W5 ⟨rfl, hp5⟩; have HP5 := Lib.hid hp5; clear hp5))
              go_roundg t.length
              case measure => exact HK2.out
              case rel =>
                go_light
                refine ⟨A ++ [c], t, pre ++ escOut E c t false, (bs' ++ (s.extract rs p).data.toList) ++ enc (escOut E c t false), p + wd c, by rw [HP2.out]; first | rfl | exact congrArg (Value.int .i64) HPW.out, by first | rfl | exact congrArg (Value.int .i64) HPW.out, by rw [HP2.out]; omega, rfl, ⟨HACS.out, HPRE.out, ?_, HLENP.out⟩, HP5.out.st, (HKc.out.trans HKE4.out).trans HP5.out.ke⟩
                rw [HP2.out, List.drop_eq_nil_of_le (by rw [List.length_take]; omega), List.append_nil, enc_append, ← List.append_assoc]
                congr 1
                rw [extract_list]; exact HA.out.2.2.1
            · have hrp2 : rs = p := by go_light; omega
              have HRP := Lib.hid hrp2
              clear hrp2
              go_wp2_with (go_at_call 103; go_must (refine (pwe_any F W0.heap.size g mini asc c t HVC.out HVT.out E HE3.out.1 HE3.out.2.1 HE3.out.2.2 _ HX.out false false (fun _ _ => rfl) _ bs' HSc.out (by go_light; have := HLB.out; omega) (HEc.out.tape)).mono ?_; rintro e' W5 ⟨rfl, hp5⟩; have HP5 := Lib.hid hp5; clear hp5))
              go_roundg t.length
              case measure => exact HK2.out
              case rel =>
                go_light
                refine ⟨A ++ [c], t, pre ++ escOut E c t false, bs' ++ enc (escOut E c t false), p + wd c, by rw [HP2.out]; first | rfl | exact congrArg (Value.int .i64) HPW.out, by first | rfl | exact congrArg (Value.int .i64) HPW.out, by rw [HP2.out]; omega, rfl, ⟨HACS.out, HPRE.out, ?_, HLENP.out⟩, HP5.out.st, HKc.out.trans HP5.out.ke⟩
                rw [HP2.out, List.drop_eq_nil_of_le (by rw [List.length_take]; omega), List.append_nil, enc_append, ← List.append_assoc]
                congr 1
                have := HA.out.2.2.1
                rw [HRP.out, List.drop_eq_nil_of_le (by rw [List.length_take]; omega), List.append_nil] at this
                exact this
end Go.Proofs.YtkfdcbdlcipmfaaGreatFmt
