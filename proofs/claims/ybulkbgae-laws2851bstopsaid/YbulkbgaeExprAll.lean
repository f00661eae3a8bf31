import Derived.Test.YbulkbgaeExpr01
import Derived.Test.YbulkbgaeExpr3
import Derived.Test.YbulkbgaeExpr2f
namespace Go.Proofs.Ybulkbgae
open Go.RowKit
set_option linter.unusedVariables false

/-- expr, at every depth. -/
theorem expr_any (B : Nat) (ca na : Option Addr) (clen ccap nlen ncap : Nat) : ∀ (n d : Nat), 4 ≤ d + n → ExprAt B ca na clen ccap nlen ncap n (d : Int) := by
  intro n
  induction n with
  | zero =>
    intro d hd w pos xs wv hC hN hG
    by_cases hp : pos < clen
    · obtain ⟨b, off, z, h1, h2, h3, h4, h5⟩ := hC.2 pos hp
      exact expr_deep B ca na clen ccap nlen ncap 0 d pos xs wv w z b off hG hp h1 h2 h3 (by omega)
    · exact expr_out B ca na clen ccap nlen ncap 0 d pos xs wv w hG (by omega)
  | succ n ih =>
    intro d hd w pos xs wv hC hN hG
    by_cases hp : pos < clen
    · obtain ⟨b, off, z, h1, h2, h3, h4, h5⟩ := hC.2 pos hp
      by_cases hd4 : 4 ≤ d
      · exact expr_deep B ca na clen ccap nlen ncap (n + 1) d pos xs wv w z b off hG hp h1 h2 h3 hd4
      · have ih' : ExprAt B ca na clen ccap nlen ncap n ((d : Int) + 1) := ih (d + 1) (by omega)
        rcases (show z % 4 = 0 ∨ z % 4 = 1 ∨ z % 4 = 2 ∨ z % 4 = 3 from by omega) with e | e | e | e
        · exact expr_zero B ca na clen ccap nlen ncap (n + 1) d pos xs wv w z b off hG hp h1 h2 h3 h4 h5 (by omega) e
        · exact expr_one B ca na clen ccap nlen ncap (n + 1) d pos xs wv w z b off hG hp h1 h2 h3 h4 h5 (by omega) e
        · by_cases hn : nlen = 0
          · exact expr_callf B ca na clen ccap nlen ncap n d pos xs wv w z b off ih' hC hN hG hp h1 h2 h3 h4 h5 (by omega) e hn
          · obtain ⟨nb, noff, s, g1, g2, g3⟩ := hN.2 (xs.length % nlen) (Nat.mod_lt _ (by omega))
            exact expr_call B ca na clen ccap nlen ncap n d pos xs wv w z b off ih' hC hN hG hp h1 h2 h3 h4 h5 (by omega) e (by omega) nb noff s g1 g2 g3
        · exact expr_sum B ca na clen ccap nlen ncap n d pos xs wv w z b off ih' hC hN hG hp h1 h2 h3 h4 h5 (by omega) e
    · exact expr_out B ca na clen ccap nlen ncap (n + 1) d pos xs wv w hG (by omega)

end Go.Proofs.Ybulkbgae
