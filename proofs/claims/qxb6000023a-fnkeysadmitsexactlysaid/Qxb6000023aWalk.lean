import Derived.Test.Qxb6000023aWalkB
import Derived.Test.Qxb6000023aWalkC
import Derived.Test.Qxb6000023aWalkD
import Derived.Test.Qxb6000023aWalkE
namespace Go.Proofs.Qxb6000023a
open Go.ChangeShapes Go.WideShapes Go.ChangeAt Go.RowKit
set_option linter.unusedVariables false

theorem law_walk (la ha pa ka : Option Addr) (ln lc hn hc pn pc kn kc : Nat) (L H P K : List Int) (lx hx : Bool) (w : World) (hL : Bytes w la ln L) (hH : Bytes w ha hn H) (hP : Bytes w pa pn P) (hK : Bytes w ka kn K) :
    Calls Try.prog 3 #[.slice la ln lc, .slice ha hn hc, .bool lx, .bool hx, .slice pa pn pc, .slice ka kn kc] w fun e w' => e = .returned (.bool true) ∧ Below w.heap.size w w' := by
  by_cases h0 : lowB la.isSome L lx pa.isSome P = none
  · exact law_none la ha pa ka ln lc hn hc pn pc kn kc L H P K lx hx w hL hH hP hK h0
  cases h1 : la.isSome with
  | false =>
    cases h2 : ha.isSome with
    | false => exact law_none_none la ha pa ka ln lc hn hc pn pc kn kc L H P K lx hx w hL hH hP hK h0 h1 h2
    | true => exact law_none_some la ha pa ka ln lc hn hc pn pc kn kc L H P K lx hx w hL hH hP hK h0 h1 h2
  | true =>
    cases h2 : ha.isSome with
    | false => exact law_some_none la ha pa ka ln lc hn hc pn pc kn kc L H P K lx hx w hL hH hP hK h0 h1 h2
    | true => exact law_some_some la ha pa ka ln lc hn hc pn pc kn kc L H P K lx hx w hL hH hP hK h0 h1 h2

end Go.Proofs.Qxb6000023a
