/- Walks: printQuoted; a dimension's halves; zzContainsAny. -/
import Derived.Test.YtkfdcbdlcipmfaaGreatFmtH16
set_option linter.unusedVariables false
set_option linter.unusedSimpArgs false
namespace Go.Proofs.YtkfdcbdlcipmfaaGreatFmt
open Go.RowKit Css Go.Stop
open Go.Extern.Stop Go.Extern
variable {F : Go.Stop.Interp} {W0 w w' : World}
def PutQ2 (B g : Nat) (mini asc : Bool) (cs : List Int) (bs : List UInt8) (w w' : World) : Prop := ∃ q, (q = 34 ∨ q = 39) ∧ PutQ B g mini asc q cs bs w w'
set_option maxHeartbeats 1000000 in
set_option maxRecDepth 100000 in
theorem printQuoted_any (g : Nat) (mini asc : Bool) (fl : Int) (cs : List Int) (hv : AllV cs) (hlow : asc = true → ∀ c ∈ cs, c < 1048576) (s : ByteArray) (h : s.data.toList = enc cs) (hss : s.size ≤ 2147483647) (w : World) (hE : Env F W0 w) (bs : List UInt8) (hst : St W0.heap.size g mini asc bs w) (hl : bs.length + 16 * cs.length + 64 ≤ 140737488355328) :
    Calls Tryz.prog 78 #[.pointer (some ⟨g, 0, none⟩), .string s, .int .u8 fl] w fun e' w' => e' = .returned (.tuple #[]) ∧ PutQ2 W0.heap.size g mini asc cs bs w w' := by
  have HE := Lib.hid hE
  have HH := Lib.hid h
  have HV := Lib.hid hv
  have HST := Lib.hid hst
  have HL := Lib.hid hl
  have HSS := Lib.hid hss
  have HLOW := Lib.hid hlow
  clear hE h hv hst hl hss hlow
  go_enter Tryz.func78, Tryz.ntmps78
  go_wp2_with (first | (go_at_call 104; go_must (refine (bestQuote_any cs HV.out s HH.out _).mono ?_; rintro e' w1 ⟨⟨q, hq, rfl⟩, hb⟩; have HQ := Lib.hid hq; clear hq; have HB := Lib.hid hb; clear hb)) | (go_at_call 76; go_must (refine (pq_any g mini asc q HQ.out fl cs HV.out HLOW.out s HH.out HSS.out _ (HE.out.below HB.out) bs (HST.out.grow HB.out) HL.out).mono ?_; rintro e' w2 ⟨rfl, hp⟩; have HP := Lib.hid hp; clear hp)))
  go_end0
  obtain ⟨out, h1, h2, h3⟩ := HP.out
  exact ⟨rfl, q, HQ.out, out, h1, h2, Put.of_below HST.out HB.out h3⟩
end Go.Proofs.YtkfdcbdlcipmfaaGreatFmt
