/- Walks: printIdent. -/
import Derived.Test.YtkfdcbdlcipmfaaGreatFmtH10
set_option linter.unusedVariables false
set_option linter.unusedSimpArgs false
namespace Go.Proofs.YtkfdcbdlcipmfaaGreatFmt
open Go.RowKit Css Go.Stop
open Go.Extern.Stop Go.Extern
variable {F : Go.Stop.Interp} {W0 w w' : World}
theorem then_norm2 {K : Act → World → Prop} {Q : Exit → Act → World → Prop} {a : Act} {w : World} (h : K a w) : (fun a w => Exit.then K Q .normal a w) a w := h
def FastUpto (s : ByteArray) (i : Nat) : Prop := ∀ j, j < i → bt s j < 128 ∧ cont (bt s j)
theorem fast_all {s : ByteArray} {cs : List Int} (h : s.data.toList = enc cs) (hf : FastUpto s s.size) : ∀ b ∈ enc cs, b.toNat < 128 ∧ cont (b.toNat : Int) := by
  intro b hb
  rw [← h] at hb
  obtain ⟨j, hj, rfl⟩ := List.getElem_of_mem hb
  have := hf j hj
  have e : bt s j = (s.data.toList[j].toNat : Int) := by
    unfold bt; rw [List.getD_eq_getElem?_getD, List.getElem?_eq_getElem hj]; rfl
  rw [e] at this
  exact ⟨by omega, this.2⟩
theorem bt_pos {s : ByteArray} {cs : List Int} (hv : AllV cs) (h : s.data.toList = enc cs) (j : Nat) (hj : j < s.size) : 1 ≤ bt s j := by
  have hj2 : j < s.data.toList.length := hj
  have e : bt s j = (s.data.toList[j].toNat : Int) := by
    unfold bt; rw [List.getD_eq_getElem?_getD, List.getElem?_eq_getElem hj2]; rfl
  have := enc_pos hv (s.data.toList[j]) (by rw [← h]; exact List.getElem_mem _)
  omega
def escI (a : Bool) (init : Int) (c : Int) (cb : Bool) : Int :=
  if a = true ∧ 128 ≤ c then 2 else if c = 13 ∨ c = 10 ∨ c = 12 ∨ c = 65279 then 2 else if init ≠ 0 then init else if cb = true then 0 else 1
theorem escI_eq (a : Bool) (init : Nat) (c : Int) : escI a init c (contB c) = (charEsc a init c : Nat) := by
  have e : (contB c = true) = cont c := by unfold contB; simp
  have e0 : ((init : Int) ≠ 0) = (init ≠ 0) := by simp
  unfold escI charEsc
  simp only [e, e0]
  repeat' split
  all_goals rfl
theorem charEsc_facts {asc : Bool} {e init : Nat} {c : Int} {A t cs : List Int} (hA : A ++ c :: t = cs) (hi : init = if A = [] then e else 0) (h1 : e ≤ 2) (h2 : e = 2 → pk cs 0 < 128) (h3 : e = 1 → ¬ would cs) (hlow : asc = true → ∀ c ∈ cs, c < 1048576) :
    charEsc asc init c ≤ 2 ∧ (charEsc asc init c = 1 → ¬ (65 ≤ c ∧ c ≤ 70) ∧ ¬ (97 ≤ c ∧ c ≤ 102)) ∧ (charEsc asc init c = 2 → c < 1048576) := by
  have hc : c ∈ cs := by rw [← hA]; simp
  have hfirst : A = [] → pk cs 0 = c := by rintro rfl; rw [← hA]; rfl
  have hlet : (65 ≤ c ∧ c ≤ 70) ∨ (97 ≤ c ∧ c ≤ 102) → cont c ∧ (A = [] → would cs) := by
    intro h
    have : starts c := by unfold starts; omega
    exact ⟨.inl this, fun hA => .inl (by rw [hfirst hA]; exact this)⟩
  unfold charEsc
  split
  · rename_i h; exact ⟨by omega, by omega, fun _ => hlow h.1 c hc⟩
  · split
    · exact ⟨by omega, by omega, fun _ => by omega⟩
    · split
      · rename_i hi0
        by_cases hAn : A = []
        · rw [if_pos hAn] at hi
          refine ⟨by omega, fun h => ?_, fun h => ?_⟩
          · have := h3 (by omega)
            exact ⟨fun h => this ((hlet (.inl h)).2 hAn), fun h => this ((hlet (.inr h)).2 hAn)⟩
          · have := h2 (by omega); rw [hfirst hAn] at this; omega
        · rw [if_neg hAn] at hi; exact absurd hi hi0
      · split
        · exact ⟨by omega, by omega, by omega⟩
        · rename_i hnc
          exact ⟨by omega, fun _ => ⟨fun h => hnc (hlet (.inl h)).1, fun h => hnc (hlet (.inr h)).1⟩, by omega⟩
set_option maxHeartbeats 8000000 in
set_option maxRecDepth 100000 in
theorem printIdent_e (g : Nat) (mini asc may : Bool) (m : Int) (hm0 : 0 ≤ m) (hm3 : m ≤ 3) (wsp : Int) (hmay : may = (wsp == 0)) (cs : List Int) (hv : AllV cs) (hlow : asc = true → ∀ c ∈ cs, c < 1048576) (s : ByteArray) (h : s.data.toList = enc cs) (e : Nat) (he2 : e ≤ 2) (heh : e = 2 → pk cs 0 < 128) (heb : e = 1 → ¬ would cs) (he : initB m (wouldB cs) s.size (bt s 0) (bt s 1) (bt s 2) = (e : Int)) (w : World) (hE : Env F W0 w) (bs : List UInt8) (hst : St W0.heap.size g mini asc bs w) (hss : s.size ≤ 2147483647) (hl : (bs ++ enc (identOut asc may e cs)).length + 16 ≤ 140737488355328) :
    Calls Tryz.prog 82 #[.pointer (some ⟨g, 0, none⟩), .string s, .int .u8 m, .int .u8 wsp] w fun e' w' => e' = .returned (.tuple #[]) ∧ Put W0.heap.size g mini asc (bs ++ enc (identOut asc may e cs)) w w' := by
  have HE := Lib.hid hE
  have HH := Lib.hid h
  have HV := Lib.hid hv
  have HST := Lib.hid hst
  have HL := Lib.hid hl
  have HSS := Lib.hid hss
  clear hss
  have hpos : wouldB cs = true → 0 < s.size := by
    intro hw
    cases cs with
    | nil => exact absurd hw (by decide)
    | cons c t => rw [size_enc h, enc_length_cons]; have := wd_pos c; omega
  have HP := Lib.hid hpos
  have HEE := Lib.hid he
  have HEI := Lib.hid (show e ≤ 2 ∧ (e = 2 → pk cs 0 < 128) ∧ (e = 1 → ¬ would cs) from ⟨he2, heh, heb⟩)
  have HLOW := Lib.hid hlow
  have HMAY := Lib.hid hmay
  have hx0 := bt_get s 0
  have hx1 := bt_get s 1
  have hx2 := bt_get s 2
  clear hE h hv hst hl hpos he he2 heh heb hlow hmay
  go_enter Tryz.func82, Tryz.ntmps82
  go_upto_block 0 with (fail)
  go_cut [9] (fun x wx => x = .int .u8 (initB m (wouldB cs) s.size (bt s 0) (bt s 1) (bt s 2)) ∧ Below w.heap.size w wx)
  case first =>
    as_aux_lemma =>
      generalize bt s 0 = b0 at *
      generalize bt s 1 = b1 at *
      generalize bt s 2 = b2 at *
      cases hw : wouldB cs
      · clear hx0 hx1 hx2 
        go_wp2_with (go_at_call 114; go_must (refine (would_any cs HV.out s HH.out HE.out).mono ?_; rintro e w1 ⟨rfl, hb1⟩; have HB1 := Lib.hid hb1; clear hb1; rw [hw]))
        all_goals
          go_meet
          refine ⟨?_, by first | exact HB1.out | exact Below.refl _ _⟩
          try rw [hw]
          congr 1
          unfold initB
          repeat' split
          all_goals first
            | rfl
            | omega
            | (simp_all; done)
            | (simp_all; omega)
            | trace_state
      · have hp2 := HP.out hw
        have hp3 : (0 : Int) < (s.size : Int) := by omega
        go_wp2_with (go_at_call 114; go_must (refine (would_any cs HV.out s HH.out HE.out).mono ?_; rintro e w1 ⟨rfl, hb1⟩; have HB1 := Lib.hid hb1; clear hb1; rw [hw]))
        all_goals
          go_meet
          refine ⟨?_, by first | exact HB1.out | exact Below.refl _ _⟩
          try rw [hw]
          congr 1
          unfold initB
          repeat' split
          all_goals first
            | rfl
            | omega
            | (simp_all; done)
            | (simp_all; omega)
            | trace_state
  case rest =>
    obtain ⟨rfl, hb⟩ := hcut
    rw [HEE.out]
    clear HEE hx0 hx1 hx2 HP hm0 hm3
    have HB := Lib.hid hb
    clear hb
    have HST1 := Lib.hid (HST.out.grow HB.out)
    have HE1 := Lib.hid (HE.out.below HB.out)
    obtain ⟨v, hat⟩ := HST1.out.at_
    have HAT := Lib.hid hat
    have hc := hat.pr.css
    have hf := hat.pr.free
    have hasc := hat.pr.asc
    clear hat
    go_upto_if 81 with (fail)
    go_cut [] (fun wx => wx = wc)
    case first =>
      as_aux_lemma =>
        cases hq : ((e : Int) == 0)
        · go_wp2_with fail
          go_meet
          rfl
        · have he0 : e = 0 := by simpa using hq
          subst he0
          go_wp2_with fail
          refine wp_scope_leave 0 ?_ ?_
          · rfl
          · go_wp2_with fail
            go_loopg [11] s.size (fun k p wr => ∃ i : Nat, p = .int .i64 i ∧ i + k = s.size ∧ Hid (FastUpto s i) ∧ wr = wc)
            case atStart => exact ⟨0, rfl, by omega, (fun j hj => by omega), rfl⟩
            case round =>
              obtain ⟨i, rfl, hik, HF, rfl⟩ := hrel
              by_cases hi : i < s.size
              · have hi2 : (i : Int) < (s.size : Int) := by omega
                have hi4 : (i : Int) ≤ 2147483648 := by have := HSS.out; omega
                have hi0 : (0 : Int) ≤ (i : Int) := by omega
                have hx := bt_get s i
                have HB1' : Hid (1 ≤ bt s i) := bt_pos HV.out HH.out i hi
                have hr := bt_range s i
                have HNEXT : Hid (bt s i < 128 → cont (bt s i) → FastUpto s (i + 1)) := by
                  intro h1 h2 j hj
                  rcases Nat.lt_or_ge j i with h3 | h3
                  · exact HF.out j h3
                  · have : j = i := by omega
                    subst this; exact ⟨h1, h2⟩
                generalize bt s i = b at hx hr HB1' HNEXT
                by_cases hb128 : b < 128
                · cases hcb : contB b
                  · have HCB := Lib.hid hcb
                    clear hcb
                    go_wp2_with (go_at_call 115; go_must (refine (cont_low b HB1'.out _).mono ?_; rintro e w1 ⟨rfl, rfl⟩; rw [HCB.out]))
                    refine wp_goto (And.intro rfl ?_)
                    refine then_norm2 ?_
                    go_step
                    go_meet
                    rfl
                  · have HCB := Lib.hid hcb
                    clear hcb
                    go_wp2_with (go_at_call 115; go_must (refine (cont_low b HB1'.out _).mono ?_; rintro e w1 ⟨rfl, rfl⟩; rw [HCB.out]))
                    go_roundg (s.size - (i + 1))
                    case measure => omega
                    case rel => exact ⟨i + 1, by first | rfl | (congr 1; omega), by omega, HNEXT.out hb128 (by have := HCB.out; unfold contB at this; simpa using this), rfl⟩
                · go_wp2_with fail
                  refine wp_goto (And.intro rfl ?_)
                  refine then_norm2 ?_
                  go_step
                  go_meet
                  rfl
              · have hi2 : ¬ (i : Int) < (s.size : Int) := by omega
                have hi3 : i = s.size := by omega
                subst hi3
                go_wp2_with (at_builtin; refine wpList_puts rfl _ _ rfl HAT.out s rfl rfl (bs.length + s.size) rfl ?hl ?_; (case hl => have := HL.out; rw [ident_fast asc may HV.out (fast_all HH.out HF.out), ← HH.out, List.length_append] at this; show bs.length + s.data.toList.length ≤ _; omega); intro A1 cap w1 hp1 hat hke; have hc1 := hp1.css; have hf1 := hp1.free; clear hp1; have HAT1 := Lib.hid hat; clear hat; have HKE := Lib.hid hke; clear hke)
                refine bodyPost_ret (results_none rfl _ _ _) rfl ?_
                refine ⟨rfl, ?_⟩
                rw [ident_fast asc may HV.out (fast_all HH.out HF.out), ← HH.out]
                exact ⟨HAT1.out.st, (Ke.of_below HB.out HST.out.base).trans HKE.out⟩
    case rest =>
      as_aux_lemma =>
        obtain rfl := hcut
        have hit0 : (wc.iter s 0).heap[wc.heap.size]? = some (.stringIter s 0) := World.iter_heap wc s 0
        have HIT0 := Lib.hid hit0
        clear hit0
        have HS0 : Hid (St W0.heap.size g mini asc bs (wc.iter s 0)) := HST1.out.grow ((Below.refl _ _).alloc (Nat.le_refl _) _)
        have HK0 : Hid (Ke W0.heap.size g w (wc.iter s 0)) := ((Ke.of_below HB.out HST.out.base).alloc HST1.out.base _)
        have HBW : Hid (w.heap.size ≤ wc.heap.size) := HB.out.size
        clear hc hf hasc
        go_wp2_with fail
        go_loopg [] cs.length (fun k wr => ∃ (A R : List Int) (bs' : List UInt8), Hid (A ++ R = cs ∧ bs' ++ enc (identOut asc may (if A = [] then e else 0) R) = bs ++ enc (identOut asc may e cs)) ∧ R.length = k ∧ Hid (wr.heap[wc.heap.size]? = some (.stringIter s (enc A).length)) ∧ Hid (St W0.heap.size g mini asc bs' wr) ∧ Hid (Ke W0.heap.size g w wr))
        case atStart => exact ⟨[], cs, bs, ⟨rfl, rfl⟩, rfl, HIT0.out, HS0.out, HK0.out⟩
        case round =>
          obtain ⟨A, R, bs', HA, hk, HIT, HS, HK⟩ := hrel
          clear HIT0 HS0 HK0
          cases R with
          | nil =>
            have hend : (enc A).length = s.size := by
              have := HA.out.1
              rw [List.append_nil] at this
              rw [this, size_enc HH.out]
            have hnext : ∀ ty, (Instr.next (.pointer (some ⟨wc.heap.size, 0, none⟩)) true ty).run Tryz.prog wr = _ := fun ty => Lib.run_next_end_at wr wc.heap.size s _ ty HIT.out (by omega)
            clear hend
            go_wp2_with fail
            go_end0
            refine ⟨rfl, ?_⟩
            have := HA.out.2
            have e2 : identOut asc may (if A = [] then e else 0) [] = [] := rfl
            rw [e2, show enc ([] : List Int) = [] from rfl, List.append_nil] at this
            rw [← this]
            exact ⟨HS.out, HK.out⟩
          | cons c t =>
            have hvc : Valid c := HV.out c (by rw [← HA.out.1]; simp)
            have hvt : AllV t := fun x hx => HV.out x (by rw [← HA.out.1]; simp [hx])
            have hs2 : s.data.toList = enc A ++ (enc1 c ++ enc t) := by rw [HH.out, ← HA.out.1, enc_append, enc_cons]
            have hsz : s.size = (enc A).length + (wd c + (enc t).length) := by rw [size_enc hs2, List.length_append, List.length_append, enc1_length]
            have hwd := wd_pos c
            have hdec := decode_enc hvc hs2
            have hnext : ∀ ty, (Instr.next (.pointer (some ⟨wc.heap.size, 0, none⟩)) true ty).run Tryz.prog wr = _ := fun ty => Lib.run_next_any_at wr wc.heap.size s _ ty HIT.out (by omega)
            simp only [hdec] at hnext
            have hcn : ((c.toNat : Nat) : Int) = c := by unfold Valid at hvc; omega
            rw [hcn] at hnext
            have HIT1 := Lib.hid (Lib.iterAt_heap wr wc.heap.size s (enc A).length ((enc A).length + wd c) HIT.out)
            have HS1 := Lib.hid (HS.out.iterAt HIT.out ((enc A).length + wd c))
            have HK1 := Lib.hid (HK.out.iterAt HBW.out HST1.out.base s ((enc A).length + wd c))
            generalize wr.iterAt wc.heap.size s ((enc A).length + wd c) = W1 at hnext HIT1 HS1 HK1
            obtain ⟨v1, hat1⟩ := HS1.out.at_
            have hasc := hat1.pr.asc
            clear hat1
            have hext : (s.extract (enc A).length s.size).data.toList = enc (c :: t) := by rw [enc_cons]; exact extract_enc hs2 _ rfl
            have HX := Lib.hid hext
            obtain ⟨init, hinit⟩ : ∃ i : Nat, i = if A = [] then e else 0 := ⟨_, rfl⟩
            have hch := charEsc_facts (asc := asc) HA.out.1 hinit HEI.out.1 HEI.out.2.1 HEI.out.2.2 HLOW.out
            have HCH := Lib.hid hch
            have hini2 : ((((enc A).length : Int) == 0) = true ∧ init = e) ∨ ((((enc A).length : Int) == 0) = false ∧ init = 0) := by
              by_cases hA0 : A = []
              · left; subst hA0; exact ⟨rfl, by simpa using hinit⟩
              · right
                rw [if_neg hA0] at hinit
                refine ⟨?_, hinit⟩
                cases A with
                | nil => exact absurd rfl hA0
                | cons a A' => rw [enc_length_cons]; have := wd_pos a; simp; omega
            have HI2 := Lib.hid hini2
            have HINIT := Lib.hid hinit
            have HVC := Lib.hid hvc
            have HVT := Lib.hid hvt
            have hlen : bs'.length + 16 ≤ 140737488355328 := by
              have h1 := congrArg List.length HA.out.2
              have h2 := HL.out
              rw [List.length_append] at h1; omega
            have HLEN := Lib.hid hlen
            have hfin : t = [] → (((enc A).length : Int) + (wd c : Int) == (s.size : Int)) = true := by
              rintro rfl
              rw [hsz]; simp [enc]
            have HFIN := Lib.hid hfin
            have hc1 : 1 ≤ c := hvc.1
            have HC1 := Lib.hid hc1
            have hple : ((enc A).length : Int) ≤ (s.size : Int) := by omega
            have hp0 : 0 ≤ ((enc A).length : Int) := by omega
            have HPB : Hid (((enc A).length : Int) ≤ 2147483647) := by have := HSS.out; show (_ : Int) ≤ _; omega
            have HWB : Hid ((wd c : Int) ≤ 4 ∧ 0 ≤ (wd c : Int)) := by refine ⟨?_, ?_⟩ <;> omega
            clear hext hch hini2 hinit hvc hvt hlen hfin hs2 hdec hcn hsz hwd HIT HS HK
            have HP : Hid ((enc A).length = (enc A).length) := rfl
            generalize hpA : (enc A).length = p at *
            have hPA := Lib.hid hpA
            clear hpA
            go_upto_region 30 with (fail)
            go_cut [121] (fun x wx => x = .bool (asc && decide (128 ≤ c)) ∧ wx = W1)
            case first =>
              clear hnext
              cases ha : asc
              · rw [ha] at hasc
                go_wp2_with fail
                go_meet
                exact ⟨by rw [ha]; rfl, rfl⟩
              · rw [ha] at hasc
                go_wp2_with fail
                go_meet
                exact ⟨by rw [ha]; rfl, rfl⟩
            case rest =>
              obtain ⟨rfl, rfl⟩ := hcut
              go_upto_if 121 with (fail)
              go_cut [15] (fun x wx => x = .int .u8 (escI asc init c (contB c)) ∧ wx = wc)
              case first =>
                clear hasc
                cases hx : (asc && decide (128 ≤ c))
                · have hx2 : ¬ (asc = true ∧ 128 ≤ c) := by
                    rintro ⟨h1, h2⟩; rw [h1] at hx; simp at hx; omega
                  have HX2 := Lib.hid hx2
                  clear hx2
                  have hcase : ((c == 13) = true ∧ Hid (c = 13 ∨ c = 10 ∨ c = 12 ∨ c = 65279)) ∨ ((c == 13) = false ∧ (c == 10) = true ∧ Hid (c = 13 ∨ c = 10 ∨ c = 12 ∨ c = 65279)) ∨ ((c == 13) = false ∧ (c == 10) = false ∧ (c == 12) = true ∧ Hid (c = 13 ∨ c = 10 ∨ c = 12 ∨ c = 65279)) ∨ ((c == 13) = false ∧ (c == 10) = false ∧ (c == 12) = false ∧ (c == 65279) = true ∧ Hid (c = 13 ∨ c = 10 ∨ c = 12 ∨ c = 65279)) ∨ ((c == 13) = false ∧ (c == 10) = false ∧ (c == 12) = false ∧ (c == 65279) = false ∧ Hid (¬ (c = 13 ∨ c = 10 ∨ c = 12 ∨ c = 65279))) := by
                    have hid : ∀ p : Prop, Hid p = p := fun _ => rfl
                    simp only [beq_iff_eq, beq_eq_false_iff_ne, hid]
                    omega
                  rcases hcase with ⟨k1, HR⟩ | ⟨k1, k2, HR⟩ | ⟨k1, k2, k3, HR⟩ | ⟨k1, k2, k3, k4, HR⟩ | ⟨k1, k2, k3, k4, HR⟩
                  iterate 4
                    · go_wp2_with fail
                      go_meet
                      refine ⟨?_, rfl⟩
                      congr 1
                      unfold escI
                      rw [if_neg HX2.out, if_pos HR.out]
                  have he00 : (((e : Int) == 0) = true ∧ Hid (¬ (e : Int) ≠ 0)) ∨ (((e : Int) == 0) = false ∧ Hid ((e : Int) ≠ 0)) := by
                    have hid : ∀ p : Prop, Hid p = p := fun _ => rfl
                    simp only [beq_iff_eq, beq_eq_false_iff_ne, hid]
                    omega
                  cases hcb : contB c
                  all_goals
                    have HCB2 := Lib.hid hcb
                    clear hcb
                    rcases HI2.out with ⟨hp00, hin⟩ | ⟨hp00, hin⟩
                    · have HIN := Lib.hid hin
                      clear hin
                      rcases he00 with ⟨he0, HE0⟩ | ⟨he0, HE0⟩
                      · go_wp2_with (go_at_call 115; go_must (refine (cont_low c HC1.out _).mono ?_; rintro e' w1 ⟨rfl, rfl⟩; rw [HCB2.out]))
                        go_meet
                        refine ⟨?_, rfl⟩
                        congr 1
                        unfold escI
                        rw [if_neg HX2.out, if_neg HR.out, HIN.out, if_neg HE0.out]
                        try rw [HCB2.out]
                        first | done | rfl
                      · go_wp2_with (go_at_call 115; go_must (refine (cont_low c HC1.out _).mono ?_; rintro e' w1 ⟨rfl, rfl⟩; rw [HCB2.out]))
                        go_meet
                        refine ⟨?_, rfl⟩
                        congr 1
                        unfold escI
                        rw [if_neg HX2.out, if_neg HR.out, HIN.out, if_pos HE0.out]
                    · have HIN := Lib.hid hin
                      clear hin he00
                      go_wp2_with (go_at_call 115; go_must (refine (cont_low c HC1.out _).mono ?_; rintro e' w1 ⟨rfl, rfl⟩; rw [HCB2.out]))
                      go_meet
                      refine ⟨?_, rfl⟩
                      congr 1
                      unfold escI
                      rw [if_neg HX2.out, if_neg HR.out, HIN.out, if_neg (by decide)]
                      try rw [HCB2.out]
                      first | done | rfl
                · have hx2 : asc = true ∧ 128 ≤ c := by simpa using hx
                  go_wp2_with fail
                  go_meet
                  refine ⟨?_, rfl⟩
                  congr 1
                  unfold escI
                  rw [if_pos hx2]
              case rest =>
                obtain ⟨rfl, rfl⟩ := hcut
                rw [escI_eq]
                generalize hEs : charEsc asc init c = E at HCH ⊢
                have HES := Lib.hid hEs
                clear hEs hasc
                go_upto_region 38 with (fail)
                go_cut [16] (fun x wx => ∃ mm : Bool, x = .bool mm ∧ wx = wc ∧ Hid (t = [] → E ≠ 0 → mm = may))
                case first =>
                  have hwc : ((wsp == 0) = true ∧ Hid (may = true)) ∨ ((wsp == 0) = false ∧ Hid (may = false)) := by
                    have := HMAY.out
                    cases hq : (wsp == 0)
                    · right; exact ⟨rfl, by rw [hq] at this; exact this⟩
                    · left; exact ⟨rfl, by rw [hq] at this; exact this⟩
                  rcases hwc with ⟨hw0, HM⟩ | ⟨hw0, HM⟩
                  · have hee : ((((E : Int) == 0) = true ∧ ((E : Int) != 0) = false) ∧ Hid (E = 0)) ∨ (((E : Int) == 0) = false ∧ ((E : Int) != 0) = true) := by
                      have hid : ∀ p : Prop, Hid p = p := fun _ => rfl
                      simp only [beq_iff_eq, beq_eq_false_iff_ne, hid, bne_iff_ne, bne_eq_false_iff_eq]
                      omega
                    generalize (E : Int) = Ei at *
                    rcases hee with ⟨⟨he0, he1⟩, HE0⟩ | ⟨he0, he1⟩
                    · go_wp2_with fail
                      go_meet
                      exact ⟨false, rfl, rfl, fun _ h => absurd HE0.out h⟩
                    · have hpb := HPB.out
                      have hwb1 := HWB.out.1
                      have hwb2 := HWB.out.2
                      cases hsum : ((p : Int) + (wd c : Int) == (s.size : Int))
                      · go_wp2_with (go_at_call 116; go_must (refine (runeLen_any _ HVC.out _).mono ?_; rintro e' w' ⟨rfl, rfl⟩))
                        go_meet
                        exact ⟨false, rfl, rfl, fun h _ => by have := HFIN.out h; rw [hsum] at this; cases this⟩
                      · go_wp2_with (go_at_call 116; go_must (refine (runeLen_any _ HVC.out _).mono ?_; rintro e' w' ⟨rfl, rfl⟩))
                        go_meet
                        exact ⟨true, rfl, rfl, fun h _ => HM.out.symm⟩
                  · go_wp2_with fail
                    go_meet
                    exact ⟨false, rfl, rfl, fun h _ => HM.out.symm⟩
                case rest =>
                  obtain ⟨mm, rfl, rfl, HM⟩ := hcut
                  go_wp2_with (go_at_call 103; go_must (refine (pwe_any F W0.heap.size g mini asc c t HVC.out HVT.out E HCH.out.1 HCH.out.2.1 HCH.out.2.2 _ HX.out may mm HM.out _ bs' HS1.out HLEN.out (HE.out.ke HK1.out).tape).mono ?_; rintro e' W2 ⟨rfl, hp2⟩; have HP2 := Lib.hid hp2; clear hp2))
                  go_roundg t.length
                  case measure => have := hk; simp at this; omega
                  case rel =>
                    refine ⟨A ++ [c], t, bs' ++ enc (escOut E c t may), ⟨by rw [← HA.out.1]; simp, ?_⟩, rfl, ?_, HP2.out.st, HK1.out.trans HP2.out.ke⟩
                    · rw [← HA.out.2, if_neg (by simp), ← HINIT.out, identOut_zero, List.append_assoc, ← enc_append]
                      congr 2
                      show _ = escOut (charEsc asc init c) c t may ++ identTail asc may t
                      rw [HES.out]
                    · have := HP2.out.ke.iter HIT1.out (HS1.out.ne_iter HIT1.out)
                      rw [enc_append, List.length_append, hPA.out, enc_cons, List.length_append, enc1_length]
                      exact this
theorem printIdent_any (g : Nat) (mini asc may : Bool) (m : Int) (hm0 : 0 ≤ m) (hm3 : m ≤ 3) (wsp : Int) (hmay : may = (wsp == 0)) (cs : List Int) (hv : AllV cs) (hlow : asc = true → ∀ c ∈ cs, c < 1048576) (s : ByteArray) (h : s.data.toList = enc cs) (w : World) (hE : Env F W0 w) (bs : List UInt8) (hst : St W0.heap.size g mini asc bs w) (hss : s.size ≤ 2147483647) (hl : (bs ++ enc (ident asc may m.toNat cs)).length + 16 ≤ 140737488355328) :
    Calls Tryz.prog 82 #[.pointer (some ⟨g, 0, none⟩), .string s, .int .u8 m, .int .u8 wsp] w fun e' w' => e' = .returned (.tuple #[]) ∧ Put W0.heap.size g mini asc (bs ++ enc (ident asc may m.toNat cs)) w w' :=
  printIdent_e g mini asc may m hm0 hm3 wsp hmay cs hv hlow s h (initEsc m.toNat cs) (initEsc_le _ _) (initEsc_low _ _) (by intro h1 h2; unfold initEsc at h1; rw [if_neg (by rintro h3; rw [h3] at h1; simp at h1), if_neg (not_not_intro h2)] at h1; (repeat' split at h1) <;> omega) (initB_eq m hm0 hm3 cs hv s h) w hE bs hst hss hl
end Go.Proofs.YtkfdcbdlcipmfaaGreatFmt
