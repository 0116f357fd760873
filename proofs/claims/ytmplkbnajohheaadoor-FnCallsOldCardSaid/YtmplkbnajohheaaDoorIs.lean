/- The walk of the test whether two slices of bytes are alike: true where they hold the same bytes. -/
import Derived.Test.YtmplkbnajohheaaDoorClone
namespace Go.Proofs.YtmplkbnajohheaaDoor.Base
open Go.RowKit Go.Proofs.YtmplkbnajohheaaDoor.Aid

theorem is_any (u v : Value) (l : List UInt8) (B C : Nat) (w : World) (hu : Rd w B u (Lib.byteCells l)) (hv : Rd w C v (Lib.byteCells l)) :
    Calls Tryd.prog 9 #[u, v] w fun e w' => e = .returned (.bool true) ∧ w = w' := by
  have e1 := run_string_rd (P := Tryd.prog) 22 9 5 Tryd.underlying22 Tryd.underlying5 Tryd.underlying9 hu
  have e2 := run_string_rd (P := Tryd.prog) 22 9 5 Tryd.underlying22 Tryd.underlying5 Tryd.underlying9 hv
  go_enter Tryd.func9, Tryd.ntmps9
  go_wp2
  go_ret
  exact ⟨rfl, rfl⟩
end Go.Proofs.YtmplkbnajohheaaDoor.Base
