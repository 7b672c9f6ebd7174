/- A Boolean argument. No condition. -/
import Derived.Test.YtefhadfcipifmaaArgs
namespace Go.Proofs.Ytefhadfcipifmaa
open Go.ChangeShapes Go.WideShapes Go.ChangeAt Go.RowKit
section
variable {H : Type} {enc : TypeId × Value → H} {W : World} {b0 base : Nat} {spare : Nat → Bool} {held : Bool} {v : Value} {d : DataW H} {p : List MemPlace}
theorem arg_bool (hv : Value.okWide Try.prog W .any b0 4 v) (_h : DataW.Trod enc Try.prog W base spare held 4 v d p) : ∃ b, v = .bool b := okWide_bool Try.underlying4 hv
end
end Go.Proofs.Ytefhadfcipifmaa
