/- Good, where it holds: the call says yes. -/
import Derived.Test.YthajiimohbjjhaaSpecC
namespace Go.Proofs.Ythajiimohbjjhaa
open Go.RowKit

theorem good_yes {a b : Option Addr} {cap capb n m : Nat} {ns : List Str} {es : List Ed} (w : World) (hn : n = ns.length) (hm : m = es.length) (h : Sl encS 1 w a cap ns) (h' : Sl encE 2 w b capb es) (hg : Good ns es) :
    Calls Try.prog 20 #[.slice a n cap, .slice b m capb] w fun e w' => e = .returned (.bool true) ∧ Below w.heap.size w w' :=
  (good_calls w hn hm h h').mono fun e w' ⟨r, he, hr, hb⟩ => ⟨by rw [he, hr.2 hg], hb⟩

end Go.Proofs.Ythajiimohbjjhaa
