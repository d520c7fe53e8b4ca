/- Walks: printTokens, as a prelude is printed: a case of its general form. -/
import Derived.Test.YtkfdcbdlcipmfaaGreatFmtH19
set_option linter.unusedVariables false
set_option linter.unusedSimpArgs false
namespace Go.Proofs.YtkfdcbdlcipmfaaGreatFmt
open Go.RowKit Css
variable {F : Go.Stop.Interp} {W0 : World}
theorem printTokens_pre (g : Nat) (mini asc : Bool) (K : Nat) (ts : List T) (v : Value) (w : World) (bs : List UInt8) (h1 : cost ts < K) (h2 : cost ts ≤ 134217728) (h3 : OKl asc ts) (h4 : TksAt w (fun b => b < W0.heap.size) v ts) (h5 : Env F W0 w) (h6 : St W0.heap.size g mini asc bs w) (h7 : bs.length + cost ts + 1048576 ≤ 140737488355328) :
    Calls Tryz.prog 80 #[.pointer (some ⟨g, 0, none⟩), v, .agg #[.int .i32 0, .int .u8 0, .bool false]] w (RetPT W0.heap.size g mini asc ts bs w) :=
  printTokens_gen g mini asc K ts v w bs 0 0 false h1 h2 (by decide) (by decide) h3 h4 h5 h6 h7
end Go.Proofs.YtkfdcbdlcipmfaaGreatFmt
