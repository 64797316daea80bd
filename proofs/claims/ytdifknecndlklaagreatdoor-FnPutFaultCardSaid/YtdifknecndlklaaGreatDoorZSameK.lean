/- spec.SameKind. -/
import Derived.Test.YtdifknecndlklaaGreatDoorZ1
set_option linter.all false
namespace Go.Proofs.YtdifknecndlklaaGreatDoor
open Go Go.RowKit
set_option maxRecDepth 100000

/-- Is a kind what is told of it? -/
def sameKind (k t : Int) : Bool := t == -2 || (t == -1 && k != 0) || k == t
theorem S_SameKind (k t : Int) (w : World) : Calls Tryz.prog 13 #[.int .i64 k, .int .i64 t] w fun e w' => e = .returned (.bool (sameKind k t)) ∧ w' = w := by
  unfold sameKind
  cases h1 : (t == -2) with
  | true =>
    go_enter Tryz.func13, Tryz.ntmps13
    go_wp2
    go_ret
    exact ⟨rfl, rfl⟩
  | false =>
    cases h2 : (t == -1) with
    | true =>
      cases h3 : (k != 0) with
      | true =>
        go_enter Tryz.func13, Tryz.ntmps13
        go_wp2
        go_ret
        exact ⟨rfl, rfl⟩
      | false =>
        cases h4 : (k == t) <;>
        · go_enter Tryz.func13, Tryz.ntmps13
          go_wp2
          go_ret
          exact ⟨rfl, rfl⟩
    | false =>
      cases h4 : (k == t) <;>
      · go_enter Tryz.func13, Tryz.ntmps13
        go_wp2
        go_ret
        exact ⟨rfl, rfl⟩

end Go.Proofs.YtdifknecndlklaaGreatDoor
