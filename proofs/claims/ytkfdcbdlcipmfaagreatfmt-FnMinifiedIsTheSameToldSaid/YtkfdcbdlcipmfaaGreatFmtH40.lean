/- PLAIN: which tokens must be apart, over bytes. No program is stepped through here. -/
import Derived.Test.YtkfdcbdlcipmfaaGreatFmtH33
import Derived.Test.YtkfdcbdlcipmfaaGreatFmtH07
set_option linter.unusedVariables false
set_option linter.unusedSimpArgs false
namespace Go.Proofs.YtkfdcbdlcipmfaaGreatFmt
open Css
def frontS (s : Int) : Prop := s = 35 ∨ s = 45 ∨ s = 64 ∨ s = 43 ∨ s = 46 ∨ s = 60 ∨ s = 47 ∨ s = 33 ∨ s = 37 ∨ s = 63
instance (s : Int) : Decidable (frontS s) := by unfold frontS; infer_instance
def backS (s : Int) : Prop := s ≠ 0 ∧ s ≠ 44 ∧ s ≠ 59 ∧ s ≠ 58 ∧ s ≠ 123 ∧ s ≠ 91 ∧ s ≠ 40
instance (s : Int) : Decidable (backS s) := by unfold backS; infer_instance
def apB (ka : Int) (sa : ByteArray) (kb : Int) (sb : ByteArray) : Bool :=
  if clsI ka ≠ 0 ∧ ka ≠ 27 then decide (clsI kb ≠ 0 ∨ kb = 22 ∨ kb = 4 ∨ kb = 33 ∨ kb = 11 ∨ kb = 17 ∨ kb = 23 ∨ kb = 20)
  else decide (frontS (sgI ka sa)) && decide (clsI kb ≠ 0 ∨ kb = 4 ∨ kb = 5 ∨ backS (sgI kb sb))
theorem clsI_iff (k : Int) : clsI k = 0 ↔ cls k = 0 := by unfold clsI; omega
theorem one_byte {l : List UInt8} {c : Int} (h : okDec l = true) (hd : dec l = [c]) (hc : c < 128) : l.length = 1 ∧ bt ⟨⟨l⟩⟩ 0 = c := by
  obtain ⟨h1, h2⟩ := okDec_val h
  rw [hd] at h1 h2
  have hv := h2 c (by simp)
  have e : enc [c] = [by8 c] := by simp [enc, enc1]; omega
  rw [e] at h1
  subst h1
  refine ⟨rfl, ?_⟩
  show (((⟨⟨[by8 c]⟩⟩ : ByteArray).data.toList.getD 0 0).toNat : Int) = c
  have := by8_nat (c := c) (by unfold Valid at hv; omega) (by omega)
  simpa using this
theorem decTwo_ne {l : List UInt8} {a b : Int} {r : List Int} (h : okDec l = true) (hd : dec l = a :: b :: r) : l.length ≠ 1 := by
  intro h1
  obtain ⟨h2, h3⟩ := okDec_val h
  have h4 := len_le_enc (dec l)
  rw [h2, h1, hd] at h4
  simp at h4
theorem sg_sign {n : RN} {asc : Bool} (h : isNodeB n = true) (hl : lowB n.text asc = true) : sgI n.kind ⟨⟨n.text⟩⟩ = signOf n.kind (dec n.text) := by
  obtain ⟨hok, hod⟩ := isNode_ok h hl
  have hkind : (tOf n.cp).kind = n.kind := rfl
  have htext : (tOf n.cp).text = dec n.text := rfl
  by_cases hc : clsI n.kind = 0 ∧ n.kind ≠ 36
  · have hc0 := (clsI_iff _).1 hc.1
    have hk : signLike (tOf n.cp).kind := by
      cases hok with
      | name h1 | func h1 | dim h1 => rw [hkind] at h1; unfold cls at hc0; rw [if_pos (by omega)] at hc0; omega
      | num h1 => rw [hkind] at h1; unfold cls at hc0; rw [if_neg (by omega), if_pos (by omega)] at hc0; omega
      | str h1 => rw [hkind] at h1; exact absurd h1 hc.2
      | sign h1 => exact h1
    cases sign_text hok hk with
    | one c h1 h2 h3 _ _ _ _ h4 =>
      rw [htext] at h1
      have hlt : c < 128 := by unfold starts at h4; omega
      obtain ⟨a1, a2⟩ := one_byte hod h1 hlt
      unfold sgI
      rw [if_pos ⟨hc.1, hc.2, a1⟩, h1, a2]
      unfold signOf
      simp only []
      rw [if_pos ⟨hc0, hc.2⟩]
    | cdc h1 h2 =>
      rw [htext] at h2
      unfold sgI
      rw [if_neg (fun h => decTwo_ne hod h2 h.2.2), h2]
      rfl
    | cdo h1 h2 =>
      rw [htext] at h2
      unfold sgI
      rw [if_neg (fun h => decTwo_ne hod h2 h.2.2), h2]
      rfl
  · unfold sgI
    rw [if_neg (fun h => hc ⟨h.1, h.2.1⟩)]
    unfold signOf
    split
    · rw [if_neg (fun h => hc ⟨(clsI_iff _).2 h.1, h.2⟩)]
    · rfl
theorem apart_bytes {n m : RN} {asc : Bool} (hn : isNodeB n = true) (hnl : lowB n.text asc = true) (hm : isNodeB m = true) (hml : lowB m.text asc = true) :
    apB n.kind ⟨⟨n.text⟩⟩ m.kind ⟨⟨m.text⟩⟩ = decide (apart (tOf n.cp) (tOf m.cp)) := by
  have k1 : (tOf n.cp).kind = n.kind := rfl
  have k2 : (tOf m.cp).kind = m.kind := rfl
  have t1 : (tOf n.cp).text = dec n.text := rfl
  have t2 : (tOf m.cp).text = dec m.text := rfl
  have c1 := clsI_iff n.kind
  have c2 := clsI_iff m.kind
  rw [eq_comm, Bool.eq_iff_iff, decide_eq_true_iff]
  unfold apart apB
  rw [k1, k2, t1, t2, sg_sign hn hnl, sg_sign hm hml]
  by_cases hc : cls n.kind ≠ 0 ∧ n.kind ≠ 27
  · rw [if_pos hc, if_pos ⟨fun h => hc.1 (c1.1 h), hc.2⟩, decide_eq_true_eq]; simp only [ne_eq, c2]
  · rw [if_neg hc, if_neg (fun h => hc ⟨fun h0 => h.1 (c1.2 h0), h.2⟩), Bool.and_eq_true, decide_eq_true_eq, decide_eq_true_eq]; simp only [ne_eq, c2]
    rfl
def needB (n : RN) (r : List RN) : Bool :=
  match r with
  | [] => false
  | m :: _ => !openQ n.kind && decide (m.depth = n.depth) && apB n.kind ⟨⟨n.text⟩⟩ m.kind ⟨⟨m.text⟩⟩
theorem needs_bytes {l : List RN} {asc : Bool} (h : ∀ n ∈ l, isNodeB n = true ∧ lowB n.text asc = true) {i : Nat} {n : RN} (hn : l[i]? = some n) : needs n.cp ((l.drop (i + 1)).map RN.cp) = needB n (l.drop (i + 1)) := by
  cases hd : l.drop (i + 1) with
  | nil => rfl
  | cons m r =>
    have h1 := h n (List.mem_of_getElem? hn)
    have h2 := h m (List.mem_of_mem_drop (by rw [hd]; simp))
    show (!decide (opens n.kind) && decide (m.depth = n.depth) && decide (apart (tOf n.cp) (tOf m.cp))) = (!openQ n.kind && decide (m.depth = n.depth) && apB n.kind ⟨⟨n.text⟩⟩ m.kind ⟨⟨m.text⟩⟩)
    rw [apart_bytes h1.1 h1.2 h2.1 h2.2]
    rfl
end Go.Proofs.YtkfdcbdlcipmfaaGreatFmt
