/-
  What the main walks share.
-/
import Derived.Test.Qxb6602646aHist
namespace Go.Proofs.Qxb6602646a
open Go.RowKit
def okPost (w : World) (e : Ending) (w' : World) : Prop := e = .returned (.bool true) ∧ Below w.heap.size w w'
/-- zzToHistory without sessions. -/
theorem toHistory0 (a : Option Addr) (c : Nat) (S : Nat → Prop) (T : List PTxn) (w : World) (hT : TxnsAt S w a T) (hS : ∀ b, S b → b < w.heap.size) (hn : 48 * T.length + 24 * opsSum T ≤ 1048576) (hnil : a = none → T.length = 0) :
    Calls Try.prog 12 #[.slice a T.length c, .slice none 0 0] w (histPost T [] w) :=
  toHistory_any a none c 0 S T [] w hT (fun h => absurd h (by simp)) hS hn hnil (by simp) (fun k h => absurd h (by simp))
end Go.Proofs.Qxb6602646a
