/-
  SEAT b6613060aD: the comparison that the sort is handed.
-/
import Derived.Test.Qxb6613060aDoorBase
import Derived.Test.Qxb6613060aDoorShelf
namespace Go.Proofs.Qxb6613060aDoor
open Go.ChangeShapes Go.WideShapes Go.ChangeAt Go.RowKit

def Srv.val (x : Srv) : Value := .agg #[.string x.id, .string x.addr, .string x.api, .bool x.non]

/-- the closure 'func(a, b Server) int' as a value -/
def cmpV : Value := .func (.func 22) #[] #[]

theorem cmp_any (x y : Srv) (w : World) :
    Calls Tryd.prog 22 #[.agg #[.string x.id, .string x.addr, .string x.api, .bool x.non], .agg #[.string y.id, .string y.addr, .string y.api, .bool y.non]] w fun e w' => e = .returned (.int .i64 (Lib.compareBytes x.key y.key)) ∧ Below w.heap.size w w' := by
  unfold Srv.key
  go_enter Tryd.func22, Tryd.ntmps22
  go_wp2_with (go_at_call 23; refine (Tryd.strings_Compare _ _ _).mono ?_; rintro e w' ⟨rfl, rfl⟩)
  go_ret
  exact ⟨rfl, ((Below.refl _ _).alloc (Nat.le_refl _) _).alloc (by simp) _⟩
end Go.Proofs.Qxb6613060aDoor
