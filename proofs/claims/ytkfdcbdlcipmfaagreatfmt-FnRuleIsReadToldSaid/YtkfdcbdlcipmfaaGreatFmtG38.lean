/- Words for the statements: what is printed is held to be what it should be. -/
import Derived.Test.YtkfdcbdlcipmfaaGreatFmtG34
import Derived.Test.YtkfdcbdlcipmfaaGreatFmtG06
set_option linter.unusedVariables false
set_option linter.unusedSimpArgs false
namespace Go.Proofs.YtkfdcbdlcipmfaaGreatFmt
open Go.RowKit Css
theorem tokens_len (n : Nat) : ∀ ds : List Int, ds.length ≤ n → (tokens ds).1.length ≤ ds.length := by
  induction n with
  | zero =>
    intro ds h
    have : ds = [] := List.length_eq_zero_iff.1 (by omega)
    subst this
    have := reads_nil false
    have h2 : tokens [] = ([], 0, false) := by
      have hc : comments [] = (0, false, []) := comments_none (by simp)
      rw [tokens]; simp [hc]
    rw [h2]; simp
  | succ n ih =>
    intro ds h
    rw [tokens]
    split
    · simp
    · rename_i hd
      have h1 := next_lt hd
      have h2 := comments_len ds
      simp only [List.length_cons]
      have := ih (next (comments ds).2.2).2.2 (by omega)
      omega
theorem Css.All2.len {α β : Type} {R : α → β → Prop} {a : List α} {b : List β} (h : All2 R a b) : a.length = b.length := by
  induction h with
  | nil => rfl
  | cons _ _ ih => simp [ih]
theorem Css.All2.get {α β : Type} {R : α → β → Prop} {a : List α} {b : List β} (h : All2 R a b) : ∀ {i : Nat} {x : α} {y : β}, a[i]? = some x → b[i]? = some y → R x y := by
  induction h with
  | nil => intro i x y h; simp at h
  | cons h _ ih =>
    intro i x y hx hy
    cases i with
    | zero => simp at hx hy; subst hx; subst hy; exact h
    | succ i => exact ih (by simpa using hx) (by simpa using hy)
/-- What has been printed is read by the walk of holds. -/
theorem holds_ready {asc : Bool} {s : ByteArray} {ds : List Int} {xs : List RIt} (h : s.data.toList = enc ds) (hsz : s.size ≤ 2147483647) (hr : ReadAs true ds (xs.map RIt.cp)) (hp : PlainTxt asc ds) (ho : ∀ x ∈ xs, ItOk x)
    (hxl : ∀ x ∈ xs, x.text.length ≤ 2147483647) (spb : Bool) (v : Value) (w : World) (hi : ItemsAt v xs w) : Calls Tryz.prog 17 #[.string s, v, .bool spb] w (RetBW true w) := by
  have hv : ∀ d ∈ ds, Valid d := fun d hd => (hp.1 d hd).1
  have hdec : dec s.data.toList = ds := by rw [h, dec_enc_v hv]
  have hpl : isPlainB s.data.toList = true := by
    unfold isPlainB okDec
    rw [hdec]
    simp only [Bool.and_eq_true, List.all_eq_true, Bool.not_eq_true', beq_eq_false_iff_ne, ne_eq]
    refine ⟨fun c hc => ?_, hp.2⟩
    have := hv c hc
    unfold Valid at this
    unfold okC
    simp only [Bool.and_eq_true, Bool.not_eq_true', beq_eq_false_iff_ne, ne_eq]
    omega
  obtain ⟨got, hg, hall⟩ := hr
  have hrd : rd (tokens ds).1 false = got ∧ (tokens ds).2.1 = 0 ∧ (tokens ds).2.2 = false := by
    unfold Css.reads at hg
    simp only [Prod.mk.injEq] at hg
    exact hg
  obtain ⟨g1, g2, g3⟩ := hrd
  have hmap := rdP_map (tokens ds).1 false
  rw [g1] at hmap
  have hlen : (tokens ds).1.length ≤ 2147483647 := by
    have h1 := tokens_len _ ds (Nat.le_refl _)
    have h2 := len_le_enc ds
    rw [← h] at h2
    have e : s.data.toList.length = s.size := rfl
    omega
  refine holds_true s (by omega) hpl (by rw [hdec]; exact g2) (by rw [hdec]; exact g3) (by rw [hdec]; exact hlen) xs v spb w hi ?_ ?_
  · rw [hdec]
    have h1 := hall.len
    rw [← hmap, List.length_map, List.length_map] at h1
    exact h1
  · intro i y x hy hx
    rw [hdec] at hy
    have hy2 : got[i]? = some (y.1.1, Css.part y.1.2.1 y.1.2.2, y.2) := by rw [← hmap, List.getElem?_map, hy]; rfl
    have hx2 : (xs.map RIt.cp)[i]? = some x.cp := by rw [List.getElem?_map, hx]; rfl
    obtain ⟨hit, hsp⟩ := hall.get hy2 hx2
    have hxm := List.mem_of_getElem? hx
    have hym := rdP_mem _ _ y (List.mem_of_getElem? hy)
    obtain ⟨s1, s2⟩ := tokens_sx ds y.1 hym
    obtain ⟨r1, r2⟩ := raw_bytes h s1 s2
    have hraw : ∀ c ∈ Css.part y.1.2.1 y.1.2.2, Valid c := by
      intro c hc
      obtain ⟨X, e⟩ := s1
      refine hv c ?_
      rw [e]
      exact List.mem_append_right _ (List.mem_of_mem_take hc)
    refine ⟨?_, r2, hxl x hxm, fun hb h0 => ?_⟩
    · show IsB _ _ _ (s.extract (s.size - bw y.1.2.1) (s.size - bw y.1.2.2)).data.toList x
      rw [r1]; exact isIt_bytes hit (ho x hxm) hraw
    · have := hsp rfl h0
      have h3 : y.2 = true ↔ x.space = 1 := this
      cases hy2 : y.2
      · simp only [beq_eq_false_iff_ne, ne_eq]; intro hs; rw [hy2] at h3; exact absurd (h3.2 hs) (by simp)
      · rw [hy2] at h3; simpa using h3.1 rfl
end Go.Proofs.YtkfdcbdlcipmfaaGreatFmt
