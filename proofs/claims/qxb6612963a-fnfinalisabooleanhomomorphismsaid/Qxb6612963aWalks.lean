/-
  THE SHARED WALK AND THE PLAIN LAW OF SEAT b6612963a: what '(BasicACL).Final' computes, and how it meets or, and, xor, and-not.
-/
import Derived.Test.Qxb6612963aRows
import Derived.WalkKit
import Derived.ProofKit
import Derived.OpenShut
import Derived.ShutString
import Derived.Laws.BitsAllLaws
namespace Go.Proofs.Qxb6612963a
open Go.ChangeShapes Go.WideShapes Go.ChangeAt Go.RowKit

/-! ### The plain law: bit 28 of a number of 32 bits -/
def fin (a : Int) : Bool := bits .and .u32 a 268435456 != 0

theorem u32_bounds (a : Int) (h : (Lit.int .u32 a).wf = true) : 0 ≤ a ∧ a < 4294967296 := by
  have := bounds_u32 h
  omega

theorem fin_bit (a : Int) (h0 : 0 ≤ a) (h1 : a < 4294967296) : fin a = a.toNat.testBit 28 := by
  unfold fin
  rw [u32_and a 268435456 h0 h1 (by omega) (by omega)]
  have e : (268435456 : Int).toNat = 2 ^ 28 := rfl
  rw [e, nat_bit, Nat.testBit_eq_decide_div_mod_eq]
  have h2 : a.toNat / 2 ^ 28 % 2 < 2 := Nat.mod_lt _ (by decide)
  generalize a.toNat / 2 ^ 28 % 2 = q at h2
  have hq : q = 0 ∨ q = 1 := by omega
  rcases hq with rfl | rfl <;> rfl

theorem lt_or (a b : Nat) (ha : a < 4294967296) (hb : b < 4294967296) : a ||| b < 4294967296 := Nat.or_lt_two_pow (n := 32) ha hb
theorem lt_and (a b : Nat) (ha : a < 4294967296) : a &&& b < 4294967296 := Nat.lt_of_le_of_lt Nat.and_le_left ha
theorem lt_xor (a b : Nat) (ha : a < 4294967296) (hb : b < 4294967296) : a ^^^ b < 4294967296 := Nat.xor_lt_two_pow (n := 32) ha hb

theorem fin_or (a b : Int) (h0 : 0 ≤ a) (h1 : a < 4294967296) (g0 : 0 ≤ b) (g1 : b < 4294967296) : fin (bits .or .u32 a b) = (fin a || fin b) := by
  rw [u32_or a b h0 h1 g0 g1]
  have := lt_or a.toNat b.toNat (by omega) (by omega)
  rw [fin_bit _ (by omega) (by omega), fin_bit a h0 h1, fin_bit b g0 g1, Int.toNat_natCast, Nat.testBit_or]

theorem fin_and (a b : Int) (h0 : 0 ≤ a) (h1 : a < 4294967296) (g0 : 0 ≤ b) (g1 : b < 4294967296) : fin (bits .and .u32 a b) = (fin a && fin b) := by
  rw [u32_and a b h0 h1 g0 g1]
  have := lt_and a.toNat b.toNat (by omega)
  rw [fin_bit _ (by omega) (by omega), fin_bit a h0 h1, fin_bit b g0 g1, Int.toNat_natCast, Nat.testBit_and]

theorem fin_xor (a b : Int) (h0 : 0 ≤ a) (h1 : a < 4294967296) (g0 : 0 ≤ b) (g1 : b < 4294967296) : fin (bits .xor .u32 a b) = (fin a ^^ fin b) := by
  rw [u32_xor a b h0 h1 g0 g1]
  have := lt_xor a.toNat b.toNat (by omega) (by omega)
  rw [fin_bit _ (by omega) (by omega), fin_bit a h0 h1, fin_bit b g0 g1, Int.toNat_natCast, Nat.testBit_xor]

theorem fin_one : fin 268435456 = true := by rw [fin_bit _ (by omega) (by omega)]; rfl
theorem fin_all : fin 4294967295 = true := by rw [fin_bit _ (by omega) (by omega)]; rfl

theorem range_andNot (a : Int) (h0 : 0 ≤ a) (h1 : a < 4294967296) : 0 ≤ bits .andNot .u32 a 268435456 ∧ bits .andNot .u32 a 268435456 < 4294967296 := by
  rw [u32_andNot a _ h0 h1 (by omega) (by omega)]
  have := lt_and a.toNat (4294967295 - (268435456 : Int).toNat) (by omega)
  omega

theorem fin_andNot (a : Int) (h0 : 0 ≤ a) (h1 : a < 4294967296) : fin (bits .andNot .u32 a 268435456) = false := by
  have hr := range_andNot a h0 h1
  rw [fin_bit _ hr.1 hr.2, u32_andNot a _ h0 h1 (by omega) (by omega), Int.toNat_natCast, Nat.testBit_and]
  have e : (4294967295 - (268435456 : Int).toNat).testBit 28 = false := rfl
  rw [e, Bool.and_false]

/-! ### The walk of '(BasicACL).Final' -/
theorem final_any (a : Int) (w : World) :
    Calls Try.prog 5 #[.int .u32 a] w fun e w' => e = .returned (.bool (fin a)) ∧ w' = w := by
  unfold fin
  go_enter Try.func5, Try.ntmps5
  go_wp2
  go_ret
  exact ⟨rfl, rfl⟩
end Go.Proofs.Qxb6612963a
