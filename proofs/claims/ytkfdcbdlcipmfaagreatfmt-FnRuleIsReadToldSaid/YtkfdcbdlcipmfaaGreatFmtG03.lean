/- The shelf's contracts of unicode/utf8.RuneLen, DecodeRuneInString and strings.ToLower, laid at this dump by the kit's own tool. -/
import Derived.Shelf.Small.Utf8
import Derived.Shelf.Unicode.DecodeAny
import Derived.Shelf.Strings.CaseAny
import Derived.Test.YtkfdcbdlcipmfaaGreatFmtProg
import Derived.Test.YtkfdcbdlcipmfaaGreatFmtG02
import Derived.StillTailTactics
import Derived.Deep.RegionLaw
import Derived.Lib.IndexBytes
set_option linter.unusedVariables false
set_option linter.unusedSimpArgs false
namespace Go.Proofs
open Go.Shelf
def Tryz.lays159_ren : Go.Shelf.Ren := ⟨fun | 159 => 136 | 165 => 122 | 166 => 123 | 167 => 134 | 169 => 124 | 230 => 154 | 204 => 155 | 240 => 145 | 241 => 146 | 197 => 100 | 118 => 116 | 168 => 160 | 270 => 161 | 262 => 162 | 276 => 158 | 277 => 159 | 260 => 131 | 242 => 164 | 313 => 165 | 278 => 166 | 274 => 149 | 275 => 150 | n => n, fun | 9 => 9 | 4 => 4 | 3 => 3 | 5 => 5 | 72 => 321 | 0 => 0 | 76 => 325 | 75 => 324 | 107 => 339 | 70 => 319 | 20 => 20 | 37 => 117 | 127 => 374 | 21 => 21 | 105 => 264 | 164 => 391 | 162 => 387 | 203 => 401 | 119 => 377 | 46 => 167 | 139 => 380 | 138 => 379 | 51 => 102 | 160 => 385 | 208 => 397 | 206 => 395 | 80 => 147 | n => n, fun | 13 => 5 | 3 => 1 | 4 => 2 | n => n⟩
theorem Tryz.lays159 : Go.Proofs.Lays.n159 Tryz.prog Tryz.lays159_ren := {
  mixed := by kernel_rfl
  f118 := Tryz.func116.trans (congrArg some (by kernel_rfl))
  f159 := Tryz.func136.trans (congrArg some (by kernel_rfl))
  f165 := Tryz.func122.trans (congrArg some (by kernel_rfl))
  f166 := Tryz.func123.trans (congrArg some (by kernel_rfl))
  f167 := Tryz.func134.trans (congrArg some (by kernel_rfl))
  f168 := Tryz.func160.trans (congrArg some (by kernel_rfl))
  f169 := Tryz.func124.trans (congrArg some (by kernel_rfl))
  f197 := Tryz.func100.trans (congrArg some (by kernel_rfl))
  f204 := Tryz.func155.trans (congrArg some (by kernel_rfl))
  f230 := Tryz.func154.trans (congrArg some (by kernel_rfl))
  f240 := Tryz.func145.trans (congrArg some (by kernel_rfl))
  f241 := Tryz.func146.trans (congrArg some (by kernel_rfl))
  f242 := Tryz.func164.trans (congrArg some (by kernel_rfl))
  f260 := Tryz.func131.trans (congrArg some (by kernel_rfl))
  f262 := Tryz.func162.trans (congrArg some (by kernel_rfl))
  f270 := Tryz.func161.trans (congrArg some (by kernel_rfl))
  f274 := Tryz.func149.trans (congrArg some (by kernel_rfl))
  f275 := Tryz.func150.trans (congrArg some (by kernel_rfl))
  f276 := Tryz.func158.trans (congrArg some (by kernel_rfl))
  f277 := Tryz.func159.trans (congrArg some (by kernel_rfl))
  f278 := Tryz.func166.trans (congrArg some (by kernel_rfl))
  f313 := Tryz.func165.trans (congrArg some (by kernel_rfl))
  t0 := Tryz.underlying0
  a0 := Tryz.isAgg0
  z0 := Tryz.sizeOf0
  v0 := Tryz.zeroValue0
  t3 := Tryz.underlying3
  a3 := Tryz.isAgg3
  z3 := Tryz.sizeOf3
  v3 := Tryz.zeroValue3
  t4 := Tryz.underlying4
  a4 := Tryz.isAgg4
  z4 := Tryz.sizeOf4
  v4 := Tryz.zeroValue4
  t5 := Tryz.underlying5
  a5 := Tryz.isAgg5
  z5 := Tryz.sizeOf5
  v5 := Tryz.zeroValue5
  t9 := Tryz.underlying9
  a9 := Tryz.isAgg9
  z9 := Tryz.sizeOf9
  v9 := Tryz.zeroValue9
  t20 := Tryz.underlying20
  a20 := Tryz.isAgg20
  z20 := Tryz.sizeOf20
  v20 := Tryz.zeroValue20
  t21 := Tryz.underlying21
  a21 := Tryz.isAgg21
  z21 := Tryz.sizeOf21
  v21 := Tryz.zeroValue21
  t37 := Tryz.underlying117
  a37 := Tryz.isAgg117
  z37 := Tryz.sizeOf117
  v37 := Tryz.zeroValue117
  t46 := Tryz.underlying167
  a46 := Tryz.isAgg167
  z46 := Tryz.sizeOf167
  v46 := Tryz.zeroValue167
  t51 := Tryz.underlying102
  a51 := Tryz.isAgg102
  z51 := Tryz.sizeOf102
  v51 := Tryz.zeroValue102
  t70 := Tryz.underlying319
  a70 := Tryz.isAgg319
  z70 := Tryz.sizeOf319
  v70 := Tryz.zeroValue319
  t72 := Tryz.underlying321
  a72 := Tryz.isAgg321
  z72 := Tryz.sizeOf321
  v72 := Tryz.zeroValue321
  t75 := Tryz.underlying324
  a75 := Tryz.isAgg324
  z75 := Tryz.sizeOf324
  v75 := Tryz.zeroValue324
  t76 := Tryz.underlying325
  a76 := Tryz.isAgg325
  z76 := Tryz.sizeOf325
  v76 := Tryz.zeroValue325
  t105 := Tryz.underlying264
  a105 := Tryz.isAgg264
  z105 := Tryz.sizeOf264
  v105 := Tryz.zeroValue264
  t107 := Tryz.underlying339
  a107 := Tryz.isAgg339
  z107 := Tryz.sizeOf339
  v107 := Tryz.zeroValue339
  t119 := Tryz.underlying377
  a119 := Tryz.isAgg377
  z119 := Tryz.sizeOf377
  t127 := Tryz.underlying374
  a127 := Tryz.isAgg374
  z127 := Tryz.sizeOf374
  v127 := Tryz.zeroValue374
  t138 := Tryz.underlying379
  a138 := Tryz.isAgg379
  z138 := Tryz.sizeOf379
  v138 := Tryz.zeroValue379
  t139 := Tryz.underlying380
  a139 := Tryz.isAgg380
  z139 := Tryz.sizeOf380
  v139 := Tryz.zeroValue380
  t160 := Tryz.underlying385
  a160 := Tryz.isAgg385
  z160 := Tryz.sizeOf385
  v160 := Tryz.zeroValue385
  t162 := Tryz.underlying387
  a162 := Tryz.isAgg387
  z162 := Tryz.sizeOf387
  v162 := Tryz.zeroValue387
  t164 := Tryz.underlying391
  a164 := Tryz.isAgg391
  z164 := Tryz.sizeOf391
  v164 := Tryz.zeroValue391
  t203 := Tryz.underlying401
  a203 := Tryz.isAgg401
  z203 := Tryz.sizeOf401
  v203 := Tryz.zeroValue401
  t206 := Tryz.underlying395
  a206 := Tryz.isAgg395
  z206 := Tryz.sizeOf395
  v206 := Tryz.zeroValue395
  t208 := Tryz.underlying397
  a208 := Tryz.isAgg397
  z208 := Tryz.sizeOf397
  v208 := Tryz.zeroValue397
  g3 := by kernel_rfl
  g4 := by kernel_rfl
  g13 := by kernel_rfl }
theorem Tryz.Builder_Extra_159 : Builder.Extra Tryz.prog Tryz.lays159_ren := {
  sizeBuilder := by kernel_rfl
  liesBuilder := by kernel_rfl
  t5 := Tryz.underlying5
  a5 := Tryz.isAgg5
  z5 := Tryz.sizeOf5
  v5 := Tryz.zeroValue5
  infoByte := by kernel_rfl
  cellsByte := by kernel_rfl
  sizeByte := by kernel_rfl
  neB5 := by decide }
def Tryz.lays118_ren : Go.Shelf.Ren := ⟨fun | 118 => 116 | n => n, fun | 21 => 21 | 3 => 3 | 4 => 4 | n => n, fun | n => n⟩
theorem Tryz.lays118 : Go.Proofs.Lays.n118 Tryz.prog Tryz.lays118_ren := {
  mixed := by kernel_rfl
  f118 := Tryz.func116.trans (congrArg some (by kernel_rfl))
  t3 := Tryz.underlying3
  a3 := Tryz.isAgg3
  z3 := Tryz.sizeOf3
  v3 := Tryz.zeroValue3
  t4 := Tryz.underlying4
  a4 := Tryz.isAgg4
  z4 := Tryz.sizeOf4
  v4 := Tryz.zeroValue4
  t21 := Tryz.underlying21
  a21 := Tryz.isAgg21
  z21 := Tryz.sizeOf21
  v21 := Tryz.zeroValue21 }
/-- utf8.RuneLen: "RuneLen returns the number of bytes in the UTF-8 encoding of the rune. It returns -1 if the rune is not a valid value to encode in UTF-8.": IT RETURNS 'Lib.runeLen r'; the world is as it was. (LAID: no walk: one application.) -/
theorem Tryz.utf8_RuneLen (r : Int) (w : World) :
    Calls Tryz.prog 116 #[.int .i32 r] w fun e w' => e = .returned (.int .i64 (Lib.runeLen r)) ∧ w' = w := Any.utf8_RuneLen Tryz.lays118 r w
def Tryz.lays197_ren : Go.Shelf.Ren := ⟨fun | 197 => 100 | 260 => 131 | n => n, fun | 9 => 9 | 21 => 21 | 3 => 3 | 4 => 4 | 5 => 5 | 105 => 264 | 119 => 377 | 0 => 0 | 46 => 167 | 139 => 380 | 138 => 379 | n => n, fun | 3 => 1 | 4 => 2 | n => n⟩
theorem Tryz.lays197 : Go.Proofs.Lays.n197 Tryz.prog Tryz.lays197_ren := {
  mixed := by kernel_rfl
  f197 := Tryz.func100.trans (congrArg some (by kernel_rfl))
  f260 := Tryz.func131.trans (congrArg some (by kernel_rfl))
  t0 := Tryz.underlying0
  a0 := Tryz.isAgg0
  z0 := Tryz.sizeOf0
  v0 := Tryz.zeroValue0
  t3 := Tryz.underlying3
  a3 := Tryz.isAgg3
  z3 := Tryz.sizeOf3
  v3 := Tryz.zeroValue3
  t4 := Tryz.underlying4
  a4 := Tryz.isAgg4
  z4 := Tryz.sizeOf4
  v4 := Tryz.zeroValue4
  t5 := Tryz.underlying5
  a5 := Tryz.isAgg5
  z5 := Tryz.sizeOf5
  v5 := Tryz.zeroValue5
  t9 := Tryz.underlying9
  a9 := Tryz.isAgg9
  z9 := Tryz.sizeOf9
  v9 := Tryz.zeroValue9
  t21 := Tryz.underlying21
  a21 := Tryz.isAgg21
  z21 := Tryz.sizeOf21
  v21 := Tryz.zeroValue21
  t46 := Tryz.underlying167
  a46 := Tryz.isAgg167
  z46 := Tryz.sizeOf167
  v46 := Tryz.zeroValue167
  t105 := Tryz.underlying264
  a105 := Tryz.isAgg264
  z105 := Tryz.sizeOf264
  v105 := Tryz.zeroValue264
  t119 := Tryz.underlying377
  a119 := Tryz.isAgg377
  z119 := Tryz.sizeOf377
  t138 := Tryz.underlying379
  a138 := Tryz.isAgg379
  z138 := Tryz.sizeOf379
  v138 := Tryz.zeroValue379
  t139 := Tryz.underlying380
  a139 := Tryz.isAgg380
  z139 := Tryz.sizeOf380
  v139 := Tryz.zeroValue380
  g3 := by kernel_rfl
  g4 := by kernel_rfl }
open Go.RowKit Go.Lib in
/-- **unicode/utf8.DecodeRuneInString AT EVERY STRING.** (LAID: no walk: one application.) -/
theorem Tryz.utf8_DecodeRuneInString (s : ByteArray) (w : World) (hT : Lib.Utf8Tabs 1 2 w) :
    Calls Tryz.prog 100 #[.string s] w fun e w' => e = .returned (.tuple #[.int .i32 (Lib.decodeGo s).1, .int .i64 (Lib.decodeGo s).2]) ∧ Below w.heap.size w w' := Any.utf8_DecodeRuneInString Tryz.lays197 s w hT
open Go.RowKit Go.Lib in
/-- **strings.ToLower AT EVERY STRING, VALID UTF-8 OR NOT.** (LAID: no walk: one application.) -/
theorem Tryz.strings_ToLower_any (s : ByteArray) (w : World) (hs : s.size < 35184372088832) (hV : CaseVar 5 caseA w) (hT : Lib.Utf8Tabs 1 2 w) :
    Calls Tryz.prog 136 #[.string s] w fun e w' => e = .returned (.string ⟨(Lib.toLowerD s.data.toList).toArray⟩) ∧ Below w.heap.size w w' := Any.strings_ToLower_any Tryz.lays159 Tryz.Builder_Extra_159 s w hs hV hT
end Go.Proofs
/- Walks: printWithEscape. -/
namespace Go.Proofs.YtkfdcbdlcipmfaaGreatFmt
open Go.RowKit Css
open Go.Extern.Stop Go.Stop Go.Extern

theorem tmp_cell (w : World) (j : Nat) (hj : j < 4) : ∃ u, (w.alloc (.cells #[.int .u8 0, .int .u8 0, .int .u8 0, .int .u8 0] 340)).cell? ⟨w.heap.size, j, none⟩ = some u := by
  refine ⟨.int .u8 0, ?_⟩
  match j, hj with
  | 0, _ => exact World.cell?_alloc_new w _ _ 0
  | 1, _ => exact World.cell?_alloc_new w _ _ 1
  | 2, _ => exact World.cell?_alloc_new w _ _ 2
  | 3, _ => exact World.cell?_alloc_new w _ _ 3
theorem tmp_free (w : World) (j : Nat) (hj : j < 4) : (w.alloc (.cells #[.int .u8 0, .int .u8 0, .int .u8 0, .int .u8 0] 340)).frozen? ⟨w.heap.size, j, none⟩ = false := World.frozen?_alloc_new w _ _ j
theorem bv_one (l : List UInt8) : ∀ u ∈ bv l, u.oneCell' = true := by
  intro u hu
  simp only [bv, List.mem_map] at hu
  obtain ⟨b, _, rfl⟩ := hu
  rfl
set_option maxHeartbeats 400000 in
set_option maxRecDepth 100000 in
theorem pwe_none (B g : Nat) (mini asc : Bool) (c : Int) (hv : Valid c) (s : ByteArray) (may : Bool) (w : World) (bs : List UInt8) (hs : St B g mini asc bs w) (hl : bs.length + 16 ≤ 140737488355328) :
    Calls Tryz.prog 103 #[.pointer (some ⟨g, 0, none⟩), .int .i32 c, .int .u8 0, .string s, .bool may] w fun e w' => e = .returned (.tuple #[]) ∧ Put B g mini asc (bs ++ enc1 c) w w' := by
  have HS := Lib.hid hs
  clear hs
  have HV := Lib.hid hv
  clear hv
  obtain ⟨i5, hi, hz0, hz1, hz2⟩ := info_parts5
  have HI := Lib.hid hi
  have HZ0 := Lib.hid hz0
  have HZ1 := Lib.hid hz1
  have HZ2 := Lib.hid hz2
  clear hi hz0 hz1 hz2
  go_enter Tryz.func103, Tryz.ntmps103
  go_wp2_with ((go_at_call 133; refine (encode_any _ _ HV.out _ ?_ ?_).mono ?_; (intro j hj; exact tmp_cell w j hj); (intro j hj; exact tmp_free w j hj); rintro e w2 ⟨rfl, hw2⟩; have HW := Lib.hid hw2; clear hw2))
  have HB : Hid (Below w.heap.size w w2) := by rw [HW.out]; exact below_putNew _ _ _
  have HC : Hid (∀ j x, (bv (enc1 c))[j]? = some x → w2.cell? ⟨w.heap.size, j, none⟩ = some x) := by
    intro j x hx
    rw [HW.out]
    have := putCells_cell w.heap.size (bv (enc1 c)) 0 (w.alloc (.cells #[.int .u8 0, .int .u8 0, .int .u8 0, .int .u8 0] 340)) (fun k hk => by rw [Nat.zero_add]; exact tmp_cell w k (by rw [bv_length, enc1_length] at hk; have := (wd_pos c).2; omega)) j x hx
    rwa [Nat.zero_add] at this
  have HS2 := Lib.hid (HS.out.grow HB.out)
  obtain ⟨⟨v, hp, ho⟩, hB⟩ := HS2.out
  have hc := hp.css
  have hf := hp.free
  have Hp := Lib.hid hp
  clear hp
  have Ho := Lib.hid ho
  clear ho
  have hwd := (wd_pos c).2
  have hwd0 := (wd_pos c).1
  have hwd2 : (wd c : Int) ≤ 4 := by omega
  have hwd3 : 0 ≤ (wd c : Int) := by omega
  have HP1 : Hid (PR B g mini asc v w2.drew) := Hp.out.same rfl
  have HO1 : Hid (w2.drew.ownsRow B 5 1 v bs.length (bv bs)) := Ho.out
  have HC1 : Hid (∀ j u, (bv (enc1 c))[j]? = some u → w2.drew.cell? ((⟨w.heap.size, 0, none⟩ : Addr).add j) = some u) := fun j u h => by
    have : ((⟨w.heap.size, 0, none⟩ : Addr).add j) = ⟨w.heap.size, j, none⟩ := by unfold Addr.add; split <;> simp_all
    rw [this]; exact HC.out j u h
  have HN1 : Hid ((bv (enc1 c)).length = wd c * 1) := by show (bv (enc1 c)).length = wd c * 1; rw [bv_length, enc1_length, Nat.mul_one]
  have HU1 : Hid (∀ u ∈ bv (enc1 c), u.oneCell' = true) := bv_one _
  go_region_law (refine step_append_lies _ rfl _ _ 117 rfl B 5 i5 (.int .u8 0) 1 1 Tryz.underlying117 HI.out HZ0.out HZ1.out HZ2.out rfl (by decide) v bs.length (bv bs) rfl HO1.out ⟨w.heap.size, 0, none⟩ (wd c) 4 (bv (enc1 c)) rfl HN1.out HC1.out HU1.out (by omega) (by unfold maxLen; omega) (by omega) (by simp; omega) w2.heap.size rfl ?_; intro q cap w3 hown hg hq hlt; have hg1 : Hid (w2.drew.grownBy w3 v.ownBlock) := hg; clear hg hq hlt; have hp1 := PR.grown HP1.out HO1.out hg1.out; have hc1 := hp1.css; have hf1 := hp1.free; clear hp1; have Hown := Lib.hid hown; clear hown)
  go_wp2
  go_end0
  refine ⟨rfl, Put.of_below HS.out HB.out ?_⟩
  have := put_of_store (s := enc1 c) (n := bs.length + wd c) HP1.out HO1.out (by simpa using hB) hg1.out Hown.out (by rw [enc1_length])
  exact ⟨this.st, this.ke.1, this.ke.2, this.ke.3, this.ke.4, this.ke.5, this.ke.6⟩
end Go.Proofs.YtkfdcbdlcipmfaaGreatFmt
/- Walks: printWithEscape, a backslash ahead. -/
namespace Go.Proofs.YtkfdcbdlcipmfaaGreatFmt
open Go.RowKit Css
open Go.Extern.Stop Go.Stop Go.Extern

abbrev tmpO : Obj := .cells #[.int .u8 0, .int .u8 0, .int .u8 0, .int .u8 0] 340
theorem tmp_notb (w : World) : ¬ IsBytes (w.alloc tmpO).heap[w.heap.size]? := by
  rintro ⟨cs, fr, h⟩
  have e : (w.alloc tmpO).heap[w.heap.size]? = some tmpO := by
    show (w.heap.push tmpO)[w.heap.size]? = _
    simp
  rw [e] at h
  injection h with h
  injection h with _ h _
  exact absurd h (by decide)
theorem tmp_same {B g : Nat} {w W1 : World} (hk : Ke B g (w.alloc tmpO) W1) (hg : g < w.heap.size) : W1.heap[w.heap.size]? = (w.alloc tmpO).heap[w.heap.size]? :=
  hk.block w.heap.size (by simp) (by omega) (tmp_notb w)
theorem tmp_after {B g : Nat} {w W1 : World} (hk : Ke B g (w.alloc tmpO) W1) (hg : g < w.heap.size) : (∀ j, j < 4 → ∃ u, W1.cell? ⟨w.heap.size, j, none⟩ = some u) ∧ (∀ j, j < 4 → W1.frozen? ⟨w.heap.size, j, none⟩ = false) := by
  have e := tmp_same hk hg
  refine ⟨fun j hj => ?_, fun j hj => ?_⟩
  · obtain ⟨u, hu⟩ := tmp_cell w j hj
    exact ⟨u, (World.cell?_of_block (w := w.alloc tmpO) (a := ⟨w.heap.size, j, none⟩) e).trans hu⟩
  · exact (World.frozen?_of_block (w := w.alloc tmpO) (a := ⟨w.heap.size, j, none⟩) e).trans (tmp_free w j hj)
theorem Ke.alloc_start {B g : Nat} {w w' : World} {o : Obj} (hB : B ≤ w.heap.size) (h : Ke B g (w.alloc o) w') : Ke B g w w' := ((Ke.refl B g w).alloc hB o).trans h
/-- Cells of a new block that holds no bytes are stored into. -/
theorem Put.putNew {B g : Nat} {mini asc : Bool} {bs : List UInt8} {w W1 : World} {b : Nat} (h : Put B g mini asc bs w W1) (hb : w.heap.size ≤ b) (hB : B ≤ w.heap.size) (hg : g < w.heap.size) (hn : ¬ IsBytes W1.heap[b]?) (l : List Value) : Put B g mini asc bs w (putCells W1 b 0 l) := by
  obtain ⟨h1, h2, h3⟩ := putCells_rest b l 0 W1
  have hh := putCells_heap b l 0 W1
  have hz := putCells_size b l 0 W1
  obtain ⟨⟨⟨v, hp, ho⟩, hB1⟩, hk⟩ := h
  have hk2 : Ke B g w (putCells W1 b 0 l) := ⟨h1.trans hk.os, h2.trans hk.tape, h3.trans hk.output, by rw [hz]; exact hk.size, fun i hi => (hh i (by omega)).trans (hk.low i hi), fun i hi hne hnb => (hh i (by omega)).trans (hk.block i hi hne hnb)⟩
  refine ⟨⟨⟨v, hp.same (hh g (by omega)), ?_⟩, by rw [hz]; exact hB1⟩, hk2⟩
  obtain ⟨o1, o2⟩ := ho
  refine ⟨o1, ?_⟩
  rcases o2 with o2 | ⟨q, cap, cur, hv, hq, hx, r⟩
  · exact Or.inl o2
  · refine Or.inr ⟨q, cap, cur, hv, hq, ?_, r⟩
    rw [hh q (by rintro rfl; exact hn ⟨cur, (0, 0), hx⟩)]; exact hx
theorem PR.alloc {B g : Nat} {mini asc : Bool} {css : Value} {w : World} (h : PR B g mini asc css w) (o : Obj) : PR B g mini asc css (w.alloc o) := h.same (Below.heap_alloc _ _ _ h.lt)

/-- The state, with the value that holds what has been printed. -/
structure At (B g : Nat) (mini asc : Bool) (bs : List UInt8) (v : Value) (w : World) : Prop where
  pr : PR B g mini asc v w
  own : w.ownsRow B 5 1 v bs.length (bv bs)
  base : B ≤ w.heap.size
theorem At.st {B g : Nat} {mini asc : Bool} {bs : List UInt8} {v : Value} {w : World} (h : At B g mini asc bs v w) : St B g mini asc bs w := ⟨⟨v, h.pr, h.own⟩, h.base⟩
theorem St.at_ {B g : Nat} {mini asc : Bool} {bs : List UInt8} {w : World} (h : St B g mini asc bs w) : ∃ v, At B g mini asc bs v w := by
  obtain ⟨⟨v, h1, h2⟩, h3⟩ := h
  exact ⟨v, h1, h2, h3⟩
theorem At.alloc {B g : Nat} {mini asc : Bool} {bs : List UInt8} {v : Value} {w : World} (h : At B g mini asc bs v w) (o : Obj) : At B g mini asc bs v (w.alloc o) := ⟨h.pr.alloc o, h.own.alloc o, by have := h.base; simp; omega⟩
theorem At.drew {B g : Nat} {mini asc : Bool} {bs : List UInt8} {v : Value} {w : World} (h : At B g mini asc bs v w) : At B g mini asc bs v w.drew := ⟨h.pr.same rfl, h.own, h.base⟩
/-- Behind an append to what is printed, and its store, the value told. -/
theorem at_of_store {B g : Nat} {mini asc : Bool} {bs : List UInt8} {w w1 : World} {v v1 : Value} {s : List UInt8} {n : Nat} (h : At B g mini asc bs v w)
    (hg : w.grownBy w1 v.ownBlock) (hown : w1.ownsRow B 5 1 v1 n (bv bs ++ bv s)) (hn : n = bs.length + s.length) : At B g mini asc (bs ++ s) v1 (w1.setCell ⟨g, 15, none⟩ v1) ∧ Ke B g w (w1.setCell ⟨g, 15, none⟩ v1) := by
  subst hn
  have hp1 := PR.grown h.pr h.own hg
  have hk := (Ke.refl B g w).grown hg h.own h.base
  refine ⟨⟨hp1.store _, ?_, ?_⟩, hk.setG hp1.base _ _⟩
  · have := own_store hp1 hown (u := v1)
    rw [bv_append, List.length_append]
    exact this
  · have := hk.size
    have := h.base
    simp [World.setCell]; omega
theorem Ke.of_drew {B g : Nat} {w w' : World} (h : Ke B g w.drew w') : Ke B g w w' := ⟨h.1, h.2, h.3, h.4, h.5, h.6⟩
section
variable {ops : Array Oper} {rest : List Oper} {o : Oper} {a : Act} {Q : Exit → Act → World → Prop}
/-- One byte more: the operation; what stands behind the store is told ahead. -/
theorem wpList_put1 (hgd : o.guard = none) (s x : Operand) (ho : o.op = .call { callee := .builtin .append, args := #[s, x], argTypes := #[117, 117] })
    {B g : Nat} {mini asc : Bool} {bs : List UInt8} {v : Value} {w : World} (H : At B g mini asc bs v w) (c : UInt8)
    (hs : a.eval s = v) (b : Nat) (hx : a.eval x = .slice (some ⟨b, 0, none⟩) 1 1) (hb : b = w.heap.size) (n : Nat) (hn : n = bs.length + 1) (hl : bs.length + 1 ≤ 140737488355328)
    (h : ∀ q cap w', PR B g mini asc v w' → At B g mini asc (bs ++ [c]) (.slice (some ⟨q, 0, none⟩) n cap) (w'.setCell ⟨g, 15, none⟩ (.slice (some ⟨q, 0, none⟩) n cap)) → Ke B g w (w'.setCell ⟨g, 15, none⟩ (.slice (some ⟨q, 0, none⟩) n cap)) → wpList Tryz.prog ops Q rest (a.put o.dst (.slice (some ⟨q, 0, none⟩) n cap)) w') :
    wpList Tryz.prog ops Q (o :: rest) a (w.alloc (.cells #[.int .u8 c.toNat] 5)) := by
  subst hb; subst hn
  obtain ⟨i5, hi, hz0, hz1, hz2⟩ := info_parts5
  have H1 := H.alloc (.cells #[.int .u8 c.toNat] 5)
  refine wpList_append_lies _ hgd s x 117 ho B 5 i5 (.int .u8 0) 1 1 Tryz.underlying117 hi hz0 hz1 hz2 rfl (by decide) v bs.length (bv bs) hs H1.own ⟨w.heap.size, 0, none⟩ 1 1 (bv [c]) hx rfl ?_ (bv_one _) (by decide) (by unfold maxLen; omega) (by omega) H1.base _ rfl ?_
  · intro j u hj
    cases j with
    | zero =>
      simp [bv] at hj; subst hj
      have : ((⟨w.heap.size, 0, none⟩ : Addr).add 0) = ⟨w.heap.size, 0, none⟩ := by unfold Addr.add; split <;> simp_all
      rw [this]; exact World.cell?_alloc_new w _ _ 0
    | succ j => simp [bv] at hj
  · intro q cap w' h1 h2 _ _
    have := at_of_store (s := [c]) H1 h2 h1 rfl
    exact h q cap w' (H1.pr.grown H1.own h2) this.1 (Ke.alloc_start H.base this.2)
/-- A text more. -/
theorem wpList_puts (hgd : o.guard = none) (s x : Operand) (ho : o.op = .call { callee := .builtin .append, args := #[s, x], argTypes := #[117, 9] })
    {B g : Nat} {mini asc : Bool} {bs : List UInt8} {v : Value} {w : World} (H : At B g mini asc bs v w) (t : ByteArray)
    (hs : a.eval s = v) (hx : a.eval x = .string t) (n : Nat) (hn : n = bs.length + t.size) (hl : bs.length + t.size ≤ 140737488355328)
    (h : ∀ A cap w', PR B g mini asc v w' → At B g mini asc (bs ++ t.data.toList) (.slice A n cap) (w'.setCell ⟨g, 15, none⟩ (.slice A n cap)) → Ke B g w (w'.setCell ⟨g, 15, none⟩ (.slice A n cap)) → wpList Tryz.prog ops Q rest (a.put o.dst (.slice A n cap)) w') :
    wpList Tryz.prog ops Q (o :: rest) a w := by
  subst hn
  obtain ⟨i5, hi, hz0, hz1, hz2⟩ := info_parts5
  refine Lib.wpList_append_own_string _ hgd s x 117 9 ho B 5 i5 Tryz.underlying117 Tryz.underlying9 hi hz0 hz1 hz2 v bs.length (bv bs) hs H.own t hx (by unfold maxLen; omega) hl H.base ?_
  intro v' w' h1 h2 _
  obtain ⟨A, cap, rfl⟩ := own_slice h1
  have := at_of_store (s := t.data.toList) H h2 h1 rfl
  exact h A cap w' (H.pr.grown H.own h2) this.1 this.2
end
/-- Some bytes of a block more, at a step of a region that draws its order. -/
theorem step_put {ops : Array Oper} {o : Oper} {a : Act} {K : Act → World → Prop} {Q : Exit → Act → World → Prop} {E : Prop} (hgd : o.guard = none) (s x : Operand) (ho : o.op = .call { callee := .builtin .append, args := #[s, x], argTypes := #[117, 117] })
    {B g : Nat} {mini asc : Bool} {bs : List UInt8} {v : Value} {w : World} (H : At B g mini asc bs v w) (l : List UInt8) (m b : Nat) (hm : l.length = m) (h0 : 0 < m)
    (hc : ∀ j u, (bv l)[j]? = some u → w.cell? ⟨b, j, none⟩ = some u)
    (hs : a.eval s = v) (cx : Nat) (hx : a.eval x = .slice (some ⟨b, 0, none⟩) m cx) (n : Nat) (hn : n = bs.length + m) (hl : bs.length + m ≤ 140737488355328)
    (h : ∀ q cap w', PR B g mini asc v w' → At B g mini asc (bs ++ l) (.slice (some ⟨q, 0, none⟩) n cap) (w'.setCell ⟨g, 15, none⟩ (.slice (some ⟨q, 0, none⟩) n cap)) → Ke B g w (w'.setCell ⟨g, 15, none⟩ (.slice (some ⟨q, 0, none⟩) n cap)) → K (a.put o.dst (.slice (some ⟨q, 0, none⟩) n cap)) w') :
    if Region.wanted o (yielded ops a.tmps) = true then Oper.wp Tryz.prog o a w.drew K Q else E := by
  subst hn
  obtain ⟨i5, hi, hz0, hz1, hz2⟩ := info_parts5
  have H1 := H.drew
  refine step_append_lies _ hgd s x 117 ho B 5 i5 (.int .u8 0) 1 1 Tryz.underlying117 hi hz0 hz1 hz2 rfl (by decide) v bs.length (bv bs) hs H1.own ⟨b, 0, none⟩ m cx (bv l) hx (by rw [bv_length, hm, Nat.mul_one]) ?_ (bv_one _) h0 (by unfold maxLen; omega) (by omega) H1.base _ rfl ?_
  · intro j u hj
    have : ((⟨b, 0, none⟩ : Addr).add j) = ⟨b, j, none⟩ := by unfold Addr.add; split <;> simp_all
    rw [this]; exact hc j u hj
  · intro q cap w' h1 h2 _ _
    have := at_of_store (s := l) H1 h2 h1 (by rw [hm])
    exact h q cap w' (H1.pr.grown H1.own h2) this.1 (Ke.of_drew this.2)

/-- Behind the encoding of a code point into the new array. -/
theorem after_encode {B g : Nat} {mini asc : Bool} {bs : List UInt8} {w W1 w2 : World} (c : Int) (h : Put B g mini asc bs (w.alloc tmpO) W1) (hB : B ≤ w.heap.size) (hg : g < w.heap.size) (hw : w2 = putCells W1 w.heap.size 0 (bv (enc1 c))) :
    Put B g mini asc bs w w2 ∧ ∀ j x, (bv (enc1 c))[j]? = some x → w2.cell? ⟨w.heap.size, j, none⟩ = some x := by
  subst hw
  refine ⟨Put.putNew ⟨h.st, Ke.alloc_start hB h.ke⟩ (Nat.le_refl _) hB hg ?_ _, fun j x hx => ?_⟩
  · rw [tmp_same h.ke hg]; exact tmp_notb w
  · have := putCells_cell w.heap.size (bv (enc1 c)) 0 W1 (fun k hk => by rw [Nat.zero_add]; exact (tmp_after h.ke hg).1 k (by rw [bv_length, enc1_length] at hk; have := (wd_pos c).2; omega)) j x hx
    rwa [Nat.zero_add] at this
end Go.Proofs.YtkfdcbdlcipmfaaGreatFmt
/- Walks: names' code points; what an identifier begins with. -/
namespace Go.Proofs.YtkfdcbdlcipmfaaGreatFmt
open Go.RowKit Css

def startsB (c : Int) : Bool := decide (starts c)
def contB (c : Int) : Bool := decide (cont c)
theorem startsB_t {c : Int} (h : starts c) : startsB c = true := by simp [startsB, h]
theorem startsB_f {c : Int} (h : ¬ starts c) : startsB c = false := by simp [startsB, h]

set_option maxHeartbeats 800000 in
set_option maxRecDepth 100000 in
theorem start_yes (c : Int) (hr : (97 ≤ c ∧ c ≤ 122) ∨ (65 ≤ c ∧ c ≤ 90) ∨ (95 ≤ c ∧ c ≤ 95) ∨ 128 ≤ c) (w : World) :
    Calls Tryz.prog 138 #[.int .i32 c] w fun e w' => e = .returned (.bool true) ∧ w = w' := by
  rcases hr with hr | hr | hr | hr
  all_goals
    go_enter Tryz.func138, Tryz.ntmps138
    go_wp2
    go_ret
    first | exact ⟨rfl, rfl⟩ | (simp; omega)
set_option maxHeartbeats 800000 in
set_option maxRecDepth 100000 in
theorem start_no (c : Int) (hr : (1 ≤ c ∧ c ≤ 64) ∨ (91 ≤ c ∧ c ≤ 94) ∨ (96 ≤ c ∧ c ≤ 96) ∨ (123 ≤ c ∧ c ≤ 127)) (w : World) :
    Calls Tryz.prog 138 #[.int .i32 c] w fun e w' => e = .returned (.bool false) ∧ w = w' := by
  rcases hr with hr | hr | hr | hr
  all_goals
    go_enter Tryz.func138, Tryz.ntmps138
    go_wp2
    go_ret
    first | exact ⟨rfl, rfl⟩ | (simp; omega)
theorem start_any (c : Int) (h1 : 1 ≤ c) (w : World) : Calls Tryz.prog 138 #[.int .i32 c] w fun e w' => e = .returned (.bool (startsB c)) ∧ w = w' := by
  by_cases h : starts c
  · rw [startsB_t h]; exact start_yes c (by unfold starts at h; omega) w
  · rw [startsB_f h]; exact start_no c (by unfold starts at h; omega) w
set_option maxHeartbeats 800000 in
set_option maxRecDepth 100000 in
theorem cont_low (c : Int) (h1 : 1 ≤ c) (w : World) : Calls Tryz.prog 115 #[.int .i32 c] w fun e w' => e = .returned (.bool (contB c)) ∧ w = w' := by
  have HC : Hid (1 ≤ c) := h1
  cases hs : startsB c
  · have hns : ¬ starts c := by simpa [startsB] using hs
    have HS := Lib.hid hs
    clear hs
    by_cases hd : 48 ≤ c ∧ c ≤ 57
    · have e : contB c = true := by unfold contB; simp; exact .inr (.inl hd)
      rw [e]
      obtain ⟨h3, h4⟩ := hd
      clear hns
      go_enter Tryz.func115, Tryz.ntmps115
      go_wp2_with (go_at_call 138; go_must (refine (start_any _ HC.out _).mono ?_; rintro e w' ⟨rfl, rfl⟩; rw [HS.out]))
      go_ret
      exact ⟨rfl, rfl⟩
    · by_cases hy : c = 45
      · subst hy
        have e : contB 45 = true := by decide
        rw [e]
        clear hns hd
        go_enter Tryz.func115, Tryz.ntmps115
        go_wp2_with (go_at_call 138; go_must (refine (start_any _ HC.out _).mono ?_; rintro e w' ⟨rfl, rfl⟩; rw [HS.out]))
        go_ret
        exact ⟨rfl, rfl⟩
      · have e : contB c = false := by unfold contB; simp only [decide_eq_false_iff_not]; rintro (h | h | h); exact hns h; exact hd h; exact hy h
        rw [e]
        have hy2 : (c == 45) = false := by simp [hy]
        have hr : c < 48 ∨ 57 < c := by omega
        clear hns hd hy
        rcases hr with hr | hr
        all_goals
          go_enter Tryz.func115, Tryz.ntmps115
          go_wp2_with (go_at_call 138; go_must (refine (start_any _ HC.out _).mono ?_; rintro e w' ⟨rfl, rfl⟩; rw [HS.out]))
          go_ret
          first | exact ⟨rfl, rfl⟩ | (refine ⟨?_, rfl⟩; simp; omega)
  · have hns : starts c := by simpa [startsB] using hs
    have HS := Lib.hid hs
    have e : contB c = true := by unfold contB; simp; exact .inl hns
    rw [e]
    clear hs hns
    go_enter Tryz.func115, Tryz.ntmps115
    go_wp2_with (go_at_call 138; go_must (refine (start_any _ HC.out _).mono ?_; rintro e w' ⟨rfl, rfl⟩; rw [HS.out]))
    go_ret
    exact ⟨rfl, rfl⟩
end Go.Proofs.YtkfdcbdlcipmfaaGreatFmt
/- Walks: the first code point of a text; whether an identifier would begin with it. -/
namespace Go.Proofs.YtkfdcbdlcipmfaaGreatFmt
open Go.RowKit Css

/-- A text's code points can all be printed. -/
def AllV (cs : List Int) : Prop := ∀ c ∈ cs, Valid c
theorem decodeGo_cons {s : ByteArray} {c : Int} {t : List Int} (hv : Valid c) (h : s.data.toList = enc (c :: t)) : Lib.decodeGo s = (c.toNat, wd c) := by
  have hs : s.size ≠ 0 := by
    have e : s.data.toList.length = s.size := rfl
    rw [h, enc_length_cons] at e; have := (wd_pos c).1; omega
  unfold Lib.decodeGo
  rw [if_neg hs]
  exact decode_enc (A := []) (R := enc t) hv (by rw [h]; rfl)
theorem decodeGo_nil {s : ByteArray} (h : s.data.toList = enc []) : Lib.decodeGo s = (65533, 0) := by
  have hs : s.size = 0 := by
    have e : s.data.toList.length = s.size := rfl
    rw [h] at e; simpa using e.symm
  unfold Lib.decodeGo
  rw [if_pos hs]
theorem dec_cons (s : ByteArray) (c : Int) (t : List Int) (hv : Valid c) (h : s.data.toList = enc (c :: t)) (w : World) (hT : Lib.Utf8Tabs 1 2 w) :
    Calls Tryz.prog 100 #[.string s] w fun e w' => e = .returned (.tuple #[.int .i32 c, .int .i64 (wd c : Nat)]) ∧ Below w.heap.size w w' := by
  refine (Tryz.utf8_DecodeRuneInString s w hT).mono ?_
  rintro e w' ⟨he, hw⟩
  refine ⟨?_, hw⟩
  rw [he, decodeGo_cons hv h]
  unfold Valid at hv
  have : ((c.toNat : Nat) : Int) = c := by omega
  show Ending.returned (.tuple #[.int .i32 ((c.toNat : Nat) : Int), _]) = _
  rw [this]
theorem dec_nil (s : ByteArray) (h : s.data.toList = enc []) (w : World) (hT : Lib.Utf8Tabs 1 2 w) :
    Calls Tryz.prog 100 #[.string s] w fun e w' => e = .returned (.tuple #[.int .i32 65533, .int .i64 0]) ∧ Below w.heap.size w w' := by
  refine (Tryz.utf8_DecodeRuneInString s w hT).mono ?_
  rintro e w' ⟨he, hw⟩
  refine ⟨?_, hw⟩
  rw [he, decodeGo_nil h]
  rfl
theorem extract_enc {s : ByteArray} {A R : List UInt8} (h : s.data.toList = A ++ R) (n : Nat) (hn : n = A.length) : (s.extract n s.size).data.toList = R := by
  subst hn
  rw [Lib.extract_to_end, h, List.drop_left]
theorem size_enc {s : ByteArray} {l : List UInt8} (h : s.data.toList = l) : s.size = l.length := by rw [← h]; rfl

/-- What is read of package unicode's tables when a text is held against the word style. -/
structure Fold (w : World) : Prop where
  asc : ∀ p ∈ [(115, 383), (83, 115), (116, 84), (84, 116), (121, 89), (89, 121), (108, 76), (76, 108), (101, 69), (69, 101)], w.cell? ⟨3, p.1, none⟩ = some (.int .u16 ((p.2 : Nat) : Int))
  orb : ∃ R oR cap, w.cell? ⟨4, 0, none⟩ = some (.slice (some ⟨R, oR, none⟩) 94 cap) ∧ (∀ p ∈ [(47, 966), (23, 837), (11, 452), (5, 197), (8, 304), (10, 383), (9, 305)], w.cell? ⟨R, oR + 2 * p.1, none⟩ = some (.int .u16 ((p.2 : Nat) : Int))) ∧ w.cell? ⟨R, oR + 21, none⟩ = some (.int .u16 83)

/-- THE START: the library's tables; fmt's texts. -/
structure Env0 (F : Go.Stop.Interp) (W0 : World) : Prop where
  tabs : Lib.Utf8Tabs 1 2 W0
  case_ : Lib.CaseVar 5 Lib.caseA W0
  fold : Fold W0
  tape : F.told.answers W0.tape
/-- A world in which what was there at the start is as it was. -/
structure Env (F : Go.Stop.Interp) (W0 w : World) : Prop where
  start : Env0 F W0
  low : ∀ i, i < W0.heap.size → w.heap[i]? = W0.heap[i]?
  size : W0.heap.size ≤ w.heap.size
  tape_ : w.tape = W0.tape
variable {F : Go.Stop.Interp} {W0 w w' : World}
theorem Env.cell (h : Env F W0 w) {a : Addr} {x : Value} (hx : W0.cell? a = some x) : w.cell? a = some x :=
  (World.cell?_of_block (w := W0) (h.low a.block (World.block_lt_of_cell? W0 a hx))).trans hx
theorem Env.tabs (h : Env F W0 w) : Lib.Utf8Tabs 1 2 w := ⟨fun c hc => h.cell (h.start.tabs.1 c hc), fun i hi => ⟨h.cell (h.start.tabs.2 i hi).1, h.cell (h.start.tabs.2 i hi).2⟩⟩
theorem Env.case_ (h : Env F W0 w) : Lib.CaseVar 5 Lib.caseA w := by
  obtain ⟨R, oR, cap, h1, h2⟩ := h.start.case_
  exact ⟨R, oR, cap, h.cell h1, fun j hj => ⟨h.cell (h2 j hj).1, h.cell (h2 j hj).2.1, h.cell (h2 j hj).2.2.1, h.cell (h2 j hj).2.2.2.1, h.cell (h2 j hj).2.2.2.2⟩⟩
theorem Env.fold (h : Env F W0 w) : Fold w := by
  obtain ⟨R, oR, cap, h1, h2, h3⟩ := h.start.fold.orb
  exact ⟨fun p hp => h.cell (h.start.fold.asc p hp), R, oR, cap, h.cell h1, fun p hp => h.cell (h2 p hp), h.cell h3⟩
theorem Env.tape (h : Env F W0 w) : F.told.answers w.tape := by rw [h.tape_]; exact h.start.tape
theorem Env.below (h : Env F W0 w) (hb : Below w.heap.size w w') : Env F W0 w' :=
  ⟨h.start, fun i hi => (hb.block i (Nat.lt_of_lt_of_le hi h.size)).trans (h.low i hi), Nat.le_trans h.size hb.size, hb.tape.trans h.tape_⟩
theorem Env.ke {g : Nat} (h : Env F W0 w) (hk : Ke W0.heap.size g w w') : Env F W0 w' :=
  ⟨h.start, fun i hi => (hk.low i hi).trans (h.low i hi), Nat.le_trans h.size hk.size, hk.tape.trans h.tape_⟩
theorem Env.alloc (h : Env F W0 w) (o : Obj) : Env F W0 (w.alloc o) := h.below ((Below.refl _ _).alloc (Nat.le_refl _) o)
theorem Env.drew (h : Env F W0 w) : Env F W0 w.drew := ⟨h.start, h.low, h.size, h.tape_⟩

def wouldB (cs : List Int) : Bool := decide (would cs)
set_option maxHeartbeats 800000 in
set_option maxRecDepth 100000 in
/-- A hyphen ahead. -/
theorem would_45 (t : List Int) (hv : AllV t) (s : ByteArray) (h : s.data.toList = enc (45 :: t)) (hE : Env F W0 w) :
    Calls Tryz.prog 114 #[.string s] w fun e w' => e = .returned (.bool (wouldB (45 :: t))) ∧ Below w.heap.size w w' := by
  have HE := Lib.hid hE
  have HH := Lib.hid h
  have hsb : startsB 45 = false := by decide
  have HSB := Lib.hid hsb
  have HV45 : Hid (Valid 45) := by show Valid 45; decide
  have hw1 : wd 45 = 1 := by decide
  have HW1 := Lib.hid hw1
  have hext : (s.extract 1 s.size).data.toList = enc t := extract_enc (A := enc1 45) (R := enc t) h 1 (by decide)
  have HX := Lib.hid hext
  have hsz := size_enc h
  rw [enc_length_cons] at hsz
  have hsz1 : 1 ≤ s.size := by omega
  have hsz2 : (1 : Int) ≤ (s.size : Int) := by omega
  clear hext hw1 hsz h hsb hE
  cases t with
  | nil =>
    have e : wouldB [45] = false := by decide
    rw [e]
    go_enter Tryz.func114, Tryz.ntmps114
    go_wp2_with fail
    refine (dec_cons s 45 [] HV45.out HH.out _ HE.out.tabs).mono ?_
    rintro e w1 ⟨rfl, hb1⟩
    have HB1 := Lib.hid hb1
    clear hb1
    rw [HW1.out]
    go_wp2_with fail
    refine (start_any 45 (by decide) _).mono ?_
    rintro e w' ⟨rfl, rfl⟩
    rw [HSB.out]
    go_wp2_with fail
    refine (dec_nil _ HX.out _ (HE.out.below HB1.out).tabs).mono ?_
    rintro e w2 ⟨rfl, hb2⟩
    have HB2 := Lib.hid hb2
    clear hb2
    go_wp2_with fail
    go_ret
    exact ⟨rfl, HB1.out.trans (HB2.out.mono HB1.out.size)⟩
  | cons d t' =>
    have hvd := hv d (by simp)
    have HVD := Lib.hid hvd
    have HD1 : Hid (1 ≤ d) := hvd.1
    have ed : wouldB (45 :: d :: t') = (startsB d || d == 45) := by
      unfold wouldB would startsB
      rw [Bool.eq_iff_iff]
      have n45 : ¬ starts 45 := by decide
      simp [n45]
    clear hv
    by_cases hd : d = 65533
    · subst hd
      have e : wouldB (45 :: 65533 :: t') = true := by rw [ed]; decide
      rw [e]
      have hw3 : wd 65533 = 3 := by decide
      have HW3 := Lib.hid hw3
      have HS3 : Hid (startsB 65533 = true) := by show startsB 65533 = true; decide
      clear hw3 ed hvd e
      go_enter Tryz.func114, Tryz.ntmps114
      go_wp2_with fail
      refine (dec_cons s 45 _ HV45.out HH.out _ HE.out.tabs).mono ?_
      rintro e w1 ⟨rfl, hb1⟩
      have HB1 := Lib.hid hb1
      clear hb1
      rw [HW1.out]
      go_wp2_with fail
      refine (start_any 45 (by decide) _).mono ?_
      rintro e w' ⟨rfl, rfl⟩
      rw [HSB.out]
      go_wp2_with fail
      refine (dec_cons _ 65533 t' HVD.out HX.out _ (HE.out.below HB1.out).tabs).mono ?_
      rintro e w2 ⟨rfl, hb2⟩
      have HB2 := Lib.hid hb2
      clear hb2
      rw [HW3.out]
      go_wp2_with fail
      refine (start_any 65533 (by decide) _).mono ?_
      rintro e w' ⟨rfl, rfl⟩
      rw [HS3.out]
      go_wp2_with fail
      go_ret
      exact ⟨rfl, HB1.out.trans (HB2.out.mono HB1.out.size)⟩
    · have hd2 : (d == 65533) = false := by simp [hd]
      clear hd hvd
      have HED := Lib.hid ed
      clear ed
      cases hsd : startsB d
      · have HSD := Lib.hid hsd
        clear hsd
        rw [HED.out, HSD.out, Bool.false_or]
        go_enter Tryz.func114, Tryz.ntmps114
        go_wp2_with fail
        refine (dec_cons s 45 _ HV45.out HH.out _ HE.out.tabs).mono ?_
        rintro e w1 ⟨rfl, hb1⟩
        have HB1 := Lib.hid hb1
        clear hb1
        rw [HW1.out]
        go_wp2_with fail
        refine (start_any 45 (by decide) _).mono ?_
        rintro e w' ⟨rfl, rfl⟩
        rw [HSB.out]
        go_wp2_with fail
        refine (dec_cons _ d t' HVD.out HX.out _ (HE.out.below HB1.out).tabs).mono ?_
        rintro e w2 ⟨rfl, hb2⟩
        have HB2 := Lib.hid hb2
        clear hb2
        go_wp2_with fail
        refine (start_any d HD1.out _).mono ?_
        rintro e w' ⟨rfl, rfl⟩
        rw [HSD.out]
        cases hy : (d == 45)
        · go_wp2_with fail
          go_ret
          exact ⟨by first | rfl | simp [hy] | (simp at hy; simp [hy]), HB1.out.trans (HB2.out.mono HB1.out.size)⟩
        · go_wp2_with fail
          go_ret
          exact ⟨by first | rfl | simp [hy] | (simp at hy; simp [hy]), HB1.out.trans (HB2.out.mono HB1.out.size)⟩
      · have HSD := Lib.hid hsd
        clear hsd
        rw [HED.out, HSD.out, Bool.true_or]
        go_enter Tryz.func114, Tryz.ntmps114
        go_wp2_with fail
        refine (dec_cons s 45 _ HV45.out HH.out _ HE.out.tabs).mono ?_
        rintro e w1 ⟨rfl, hb1⟩
        have HB1 := Lib.hid hb1
        clear hb1
        rw [HW1.out]
        go_wp2_with fail
        refine (start_any 45 (by decide) _).mono ?_
        rintro e w' ⟨rfl, rfl⟩
        rw [HSB.out]
        go_wp2_with fail
        refine (dec_cons _ d t' HVD.out HX.out _ (HE.out.below HB1.out).tabs).mono ?_
        rintro e w2 ⟨rfl, hb2⟩
        have HB2 := Lib.hid hb2
        clear hb2
        go_wp2_with fail
        refine (start_any d HD1.out _).mono ?_
        rintro e w' ⟨rfl, rfl⟩
        rw [HSD.out]
        go_wp2_with fail
        go_ret
        exact ⟨rfl, HB1.out.trans (HB2.out.mono HB1.out.size)⟩
set_option maxHeartbeats 1600000 in
set_option maxRecDepth 100000 in
theorem would_any (cs : List Int) (hv : AllV cs) (s : ByteArray) (h : s.data.toList = enc cs) (hE : Env F W0 w) :
    Calls Tryz.prog 114 #[.string s] w fun e w' => e = .returned (.bool (wouldB cs)) ∧ Below w.heap.size w w' := by
  have HE := Lib.hid hE
  have HH := Lib.hid h
  clear hE
  cases cs with
  | nil =>
    have e : wouldB [] = false := by decide
    rw [e]
    clear h
    go_enter Tryz.func114, Tryz.ntmps114
    go_wp2_with (go_at_call 100; go_must (refine (dec_nil s HH.out _ HE.out.tabs).mono ?_; rintro e w1 ⟨rfl, hb1⟩; have HB1 := Lib.hid hb1; clear hb1))
    go_ret
    exact ⟨rfl, HB1.out⟩
  | cons c t =>
    have hvc := hv c (by simp)
    have hvt : AllV t := fun x hx => hv x (by simp [hx])
    have HVC := Lib.hid hvc
    have hb1 := hvc.1
    have hb2 := hvc.2.1
    have HB1' : Hid (1 ≤ c) := hb1
    have hsz := size_enc h
    rw [enc_length_cons] at hsz
    have hwd := (wd_pos c).1
    have hrune : ¬ (c = 65533 ∧ wd c ≤ 1) := by
      rintro ⟨h1, h2⟩
      subst h1
      exact absurd h2 (by decide)
    by_cases hs : starts c
    · have e : wouldB (c :: t) = true := by unfold wouldB would; simp [hs]
      rw [e]
      have hsb := startsB_t hs
      have HSB := Lib.hid hsb
      clear hsb hs hsz h
      by_cases hc : c = 65533
      · subst hc
        have hw3 : wd 65533 = 3 := by decide
        have HW3 := Lib.hid hw3
        clear hw3 hrune hwd
        go_enter Tryz.func114, Tryz.ntmps114
        go_wp2_with (first | (go_at_call 100; go_must (refine (dec_cons s _ t HVC.out HH.out _ HE.out.tabs).mono ?_; rintro e w1 ⟨rfl, hb1⟩; have HB1 := Lib.hid hb1; clear hb1; rw [HW3.out])) | (go_at_call 138; go_must (refine (start_any _ HB1'.out _).mono ?_; rintro e w' ⟨rfl, rfl⟩; rw [HSB.out])))
        go_ret
        exact ⟨rfl, HB1.out⟩
      · have hc2 : (c == 65533) = false := by simp [hc]
        clear hrune hc
        go_enter Tryz.func114, Tryz.ntmps114
        go_wp2_with (first | (go_at_call 100; go_must (refine (dec_cons s _ t HVC.out HH.out _ HE.out.tabs).mono ?_; rintro e w1 ⟨rfl, hb1⟩; have HB1 := Lib.hid hb1; clear hb1)) | (go_at_call 138; go_must (refine (start_any _ HB1'.out _).mono ?_; rintro e w' ⟨rfl, rfl⟩; rw [HSB.out])))
        go_ret
        exact ⟨rfl, HB1.out⟩
    · have hsb := startsB_f hs
      have HSB := Lib.hid hsb
      have hc2 : (c == 65533) = false := by simp; rintro rfl; exact hs (by decide)
      clear hsb hrune
      by_cases hy : c = 45
      · subst hy
        exact would_45 t hvt s HH.out HE.out
      · have e : wouldB (c :: t) = false := by
          unfold wouldB would; simp [hs, hy]
        rw [e]
        have hy2 : (c == 45) = false := by simp [hy]
        clear hs hy hsz h
        go_enter Tryz.func114, Tryz.ntmps114
        go_wp2_with (first | (go_at_call 100; go_must (refine (dec_cons s _ t HVC.out HH.out _ HE.out.tabs).mono ?_; rintro e w1 ⟨rfl, hb1⟩; have HB1 := Lib.hid hb1; clear hb1)) | (go_at_call 138; go_must (refine (start_any _ HB1'.out _).mono ?_; rintro e w' ⟨rfl, rfl⟩; rw [HSB.out])))
        go_ret
        exact ⟨rfl, HB1.out⟩

end Go.Proofs.YtkfdcbdlcipmfaaGreatFmt
/- PLAIN: flat nodes and trees of tokens; what is expected to be read of them. No program in sight. -/
namespace Go.Proofs.YtkfdcbdlcipmfaaGreatFmt
namespace Css

/-- A node of a flat tree. -/
structure N where
  kind : Int
  unit : Int
  depth : Int
  text : List Int
  before : Bool
  after : Bool

/-- Each node is no deeper than it may be. -/
def Tree : Int → List N → Prop
  | _, [] => True
  | most, n :: l => 0 ≤ n.depth ∧ n.depth ≤ most ∧ Tree (if opens n.kind then n.depth + 1 else n.depth) l
theorem Tree.any {m m' : Int} {l : List N} (h : Tree m l) (hl : ∀ n r, l = n :: r → n.depth ≤ m') : Tree m' l := by
  cases l with
  | nil => trivial
  | cons n r => exact ⟨h.1, hl n r rfl, h.2.2⟩

/-- The trees that flat nodes are, from a depth on; what is left. -/
inductive Parse : Int → List N → List T → List N → Prop
  | nil (d : Int) : Parse d [] [] []
  | stop (d : Int) (n : N) (r : List N) : n.depth < d → Parse d (n :: r) [] (n :: r)
  | leaf (d : Int) (n : N) (r : List N) (ts : List T) (rest : List N) : ¬ n.depth < d → ¬ opens n.kind → Parse d r ts rest →
      Parse d (n :: r) (.mk n.kind n.unit.toNat n.text n.before n.after [] :: ts) rest
  | node (d : Int) (n : N) (r : List N) (kids : List T) (r1 : List N) (ts : List T) (rest : List N) : ¬ n.depth < d → opens n.kind → Parse (n.depth + 1) r kids r1 → Parse d r1 ts rest →
      Parse d (n :: r) (.mk n.kind n.unit.toNat n.text n.before n.after kids :: ts) rest

theorem parse_any (k : Nat) : ∀ (l : List N) (d : Int), l.length ≤ k → ∃ ts rest, Parse d l ts rest ∧ rest.length ≤ l.length := by
  induction k with
  | zero =>
    intro l d h
    have : l = [] := List.eq_nil_of_length_eq_zero (by omega)
    subst this
    exact ⟨[], [], .nil d, Nat.le_refl _⟩
  | succ k ih =>
    intro l d h
    cases l with
    | nil => exact ⟨[], [], .nil d, Nat.le_refl _⟩
    | cons n r =>
      have hr : r.length ≤ k := by simp at h; omega
      by_cases hd : n.depth < d
      · exact ⟨[], _, .stop d n r hd, Nat.le_refl _⟩
      · by_cases ho : opens n.kind
        · obtain ⟨kids, r1, hp1, hl1⟩ := ih r (n.depth + 1) hr
          obtain ⟨ts, rest, hp2, hl2⟩ := ih r1 d (by omega)
          exact ⟨_, rest, .node d n r kids r1 ts rest hd ho hp1 hp2, by simp; omega⟩
        · obtain ⟨ts, rest, hp, hl⟩ := ih r d hr
          exact ⟨_, rest, .leaf d n r ts rest hd ho hp, by simp; omega⟩
theorem parse_len {d : Int} {l : List N} {ts : List T} {rest : List N} (h : Parse d l ts rest) : rest.length ≤ l.length := by
  induction h with
  | nil => exact Nat.le_refl _
  | stop => exact Nat.le_refl _
  | leaf _ _ _ _ _ _ _ _ ih => simp; omega
  | node _ _ _ _ _ _ _ _ _ _ _ ih1 ih2 => simp; omega
/-- What is left is less deep, and a tree still. -/
theorem parse_rest {d : Int} {l : List N} {ts : List T} {rest : List N} (h : Parse d l ts rest) : (∀ n r, rest = n :: r → n.depth < d) ∧ ∀ m, Tree m l → ∃ m', Tree m' rest := by
  induction h with
  | nil => exact ⟨by simp, fun m h => ⟨m, h⟩⟩
  | stop d n r hd => exact ⟨by rintro n' r' ⟨⟩; exact hd, fun m h => ⟨m, h⟩⟩
  | leaf d n r ts rest hd ho hp ih => exact ⟨ih.1, fun m h => ih.2 _ h.2.2⟩
  | node d n r kids r1 ts rest hd ho hp1 hp2 ih1 ih2 =>
    refine ⟨ih2.1, fun m h => ?_⟩
    obtain ⟨m', h'⟩ := ih1.2 _ h.2.2
    exact ih2.2 _ h'

/-! ### What is expected -/
structure It where
  kind : Int
  unit : Int
  text : List Int
  space : Int
def closeIt (k : Int) : It := ⟨k, 0, [], -1⟩
def spOf (fr la b : Bool) : Int := if fr then -1 else if b || la then 1 else 0
/-- A map with one entry more. -/
def upd (f : Int → Bool) (i : Int) (x : Bool) : Int → Bool := fun j => if j = i then x else f j
/-- The items of flat nodes, one by one; open: what closes, innermost first. -/
def itemsGo : List Int → (Int → Bool) → (Int → Bool) → List N → List It
  | op, _, _, [] => op.map closeIt
  | op, last, fresh, n :: l =>
    (op.take (op.length - n.depth.toNat)).map closeIt ++ ⟨n.kind, n.unit, n.text, spOf (fresh n.depth) (last n.depth) n.before⟩ ::
      (if opens n.kind then itemsGo (closeKind n.kind :: op.drop (op.length - n.depth.toNat)) (upd last n.depth n.after) (upd (upd fresh n.depth false) (n.depth + 1) true) l
       else itemsGo (op.drop (op.length - n.depth.toNat)) (upd last n.depth n.after) (upd fresh n.depth false) l)
def items (l : List N) : List It := itemsGo [] (fun _ => false) (fun i => decide (i = 0)) l

/-- The items of a list of trees. -/
def itemsF : List T → Bool → Bool → List It
  | [], _, _ => []
  | .mk k u x b a kids :: ts, fr, la => ⟨k, (u : Int), x, spOf fr la b⟩ :: ((if opens k then itemsF kids true false ++ [closeIt (closeKind k)] else []) ++ itemsF ts false a)

theorem itemsF_la (ts : List T) (a b : Bool) : itemsF ts true a = itemsF ts true b := by
  cases ts with
  | nil => simp [itemsF]
  | cons t ts => cases t; simp [itemsF, spOf]

theorem itemsGo_close (X base : List Int) (last fresh : Int → Bool) (l : List N) (h : ∀ n r, l = n :: r → 0 ≤ n.depth ∧ n.depth ≤ base.length) :
    itemsGo (X ++ base) last fresh l = X.map closeIt ++ itemsGo base last fresh l := by
  cases l with
  | nil => simp [itemsGo]
  | cons n r =>
    have hd := h n r rfl
    have e : (X ++ base).length - n.depth.toNat = X.length + (base.length - n.depth.toNat) := by rw [List.length_append]; omega
    have e1 : (X ++ base).take (X.length + (base.length - n.depth.toNat)) = X ++ base.take (base.length - n.depth.toNat) := by
      rw [List.take_append, List.take_of_length_le (by omega), Nat.add_sub_cancel_left]
    have e2 : (X ++ base).drop (X.length + (base.length - n.depth.toNat)) = base.drop (base.length - n.depth.toNat) := by
      rw [List.drop_append, List.drop_eq_nil_of_le (by omega), List.nil_append, Nat.add_sub_cancel_left]
    simp only [itemsGo]
    rw [e, e1, e2]
    simp

/-- Units are numbers. -/
def UnitOk (l : List N) : Prop := ∀ n ∈ l, 0 ≤ n.unit

theorem itemsGo_parse {d : Int} {l : List N} {ts : List T} {rest : List N} (hp : Parse d l ts rest) : 0 ≤ d → UnitOk l → ∀ (base : List Int) (last fresh : Int → Bool), Tree d l → (base.length : Int) = d →
    ∃ last' fresh', itemsGo base last fresh l = itemsF ts (fresh d) (last d) ++ itemsGo base last' fresh' rest ∧ (∀ i, i < d → last' i = last i ∧ fresh' i = fresh i) := by
  induction hp with
  | nil d => intro _ _ base last fresh _ _; exact ⟨last, fresh, by simp [itemsF], fun _ _ => ⟨rfl, rfl⟩⟩
  | stop d n r hd => intro _ _ base last fresh _ _; exact ⟨last, fresh, by simp [itemsF], fun _ _ => ⟨rfl, rfl⟩⟩
  | leaf d n r ts rest hd ho hp ih =>
    intro h0 hu base last fresh ht hb
    have hnd : n.depth = d := by have := ht.2.1; omega
    have ht2 := ht.2.2
    rw [if_neg ho, hnd] at ht2
    obtain ⟨la, fr, he, hk⟩ := ih h0 (fun x hx => hu x (by simp [hx])) base (upd last d n.after) (upd fresh d false) ht2 hb
    refine ⟨la, fr, ?_, fun i hi => ?_⟩
    · have e0 : base.length - d.toNat = 0 := by omega
      have un := hu n (by simp)
      have eu : ((n.unit.toNat : Nat) : Int) = n.unit := by omega
      simp only [itemsGo, itemsF, hnd, e0, if_neg ho, eu]
      simp only [List.take_zero, List.map_nil, List.nil_append, List.drop_zero, List.cons_append, List.cons.injEq, true_and]
      rw [he]
      simp [upd]
    · have := hk i hi
      rw [this.1, this.2]
      unfold upd
      rw [if_neg (by omega), if_neg (by omega)]
      exact ⟨rfl, rfl⟩
  | node d n r kids r1 ts rest hd ho hp1 hp2 ih1 ih2 =>
    intro h0 hu base last fresh ht hb
    have hnd : n.depth = d := by have := ht.2.1; omega
    have ht2 := ht.2.2
    rw [if_pos ho, hnd] at ht2
    have hu1 : UnitOk r := fun x hx => hu x (by simp [hx])
    rw [hnd] at ih1 hp1
    obtain ⟨la1, fr1, he1, hk1⟩ := ih1 (by omega) hu1 (closeKind n.kind :: base) (upd last d n.after) (upd (upd fresh d false) (d + 1) true) ht2 (by simp; omega)
    obtain ⟨hrest1, htree1⟩ := parse_rest hp1
    obtain ⟨m', ht3⟩ := htree1 _ ht2
    have ht4 : Tree d r1 := ht3.any (fun n r e => by have := hrest1 n r e; omega)
    have hu2 : UnitOk r1 := by
      have : ∀ {d l ts rest}, Parse d l ts rest → UnitOk l → UnitOk rest := by
        intro d l ts rest h
        induction h with
        | nil => exact fun h => h
        | stop => exact fun h => h
        | leaf _ _ _ _ _ _ _ _ ih => exact fun h => ih (fun x hx => h x (by simp [hx]))
        | node _ _ _ _ _ _ _ _ _ _ _ ih1 ih2 => exact fun h => ih2 (ih1 (fun x hx => h x (by simp [hx])))
      exact this hp1 hu1
    obtain ⟨la2, fr2, he2, hk2⟩ := ih2 h0 hu2 base la1 fr1 ht4 hb
    refine ⟨la2, fr2, ?_, fun i hi => ?_⟩
    · have e0 : base.length - d.toNat = 0 := by omega
      have un := hu n (by simp)
      have eu : ((n.unit.toNat : Nat) : Int) = n.unit := by omega
      have ec : itemsGo (closeKind n.kind :: base) la1 fr1 r1 = closeIt (closeKind n.kind) :: itemsGo base la1 fr1 r1 := by
        have := itemsGo_close [closeKind n.kind] base la1 fr1 r1 (fun x y e => by
          have h1 := hrest1 x y e
          have h2 : Tree m' (x :: y) := by rw [← e]; exact ht3
          exact ⟨h2.1, by omega⟩)
        simpa using this
      have eA : la1 d = n.after := by rw [(hk1 d (by omega)).1]; simp [upd]
      have eB : fr1 d = false := by rw [(hk1 d (by omega)).2]; unfold upd; rw [if_neg (by omega)]; simp
      have eC : (upd (upd fresh d false) (d + 1) true) (d + 1) = true := by simp [upd]
      simp only [itemsGo, itemsF, hnd, e0, if_pos ho, eu]
      simp only [List.take_zero, List.map_nil, List.nil_append, List.drop_zero, List.cons_append, List.cons.injEq, true_and]
      rw [he1, eC, itemsF_la kids _ false, ec, he2, eA, eB]
      simp
    · have h1 := hk2 i hi
      have h2 := hk1 i (by omega)
      rw [h1.1, h1.2, h2.1, h2.2]
      unfold upd
      rw [if_neg (by omega), if_neg (by omega), if_neg (by omega)]
      exact ⟨rfl, rfl⟩

/-- THE ITEMS OF A TREE. -/
theorem items_parse {l : List N} (ht : Tree 0 l) (hu : UnitOk l) : ∃ ts, Parse 0 l ts [] ∧ items l = itemsF ts true false := by
  obtain ⟨ts, rest, hp, _⟩ := parse_any l.length l 0 (Nat.le_refl _)
  obtain ⟨h1, h2⟩ := parse_rest hp
  obtain ⟨m', h3⟩ := h2 _ ht
  have hr : rest = [] := by
    cases rest with
    | nil => rfl
    | cons n r => have := h1 n r rfl; have := h3.1; omega
  subst hr
  refine ⟨ts, hp, ?_⟩
  obtain ⟨la, fr, he, _⟩ := itemsGo_parse hp (Int.le_refl _) hu [] (fun _ => false) (fun i => decide (i = 0)) ht rfl
  unfold items
  rw [he]
  simp [itemsGo]

end Css
end Go.Proofs.YtkfdcbdlcipmfaaGreatFmt
