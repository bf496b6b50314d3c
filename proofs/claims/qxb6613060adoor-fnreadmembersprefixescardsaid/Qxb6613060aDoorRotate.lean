/-
  SEAT b6613060aD: the walks of swapRangeCmpFunc and rotateCmpFunc.
-/
import Derived.Test.Qxb6613060aDoorBase
import Derived.BigRegion
namespace Go.Proofs.Qxb6613060aDoor
open Go.ChangeShapes Go.WideShapes Go.ChangeAt Go.RowKit

theorem swp_next {f : Nat → Srv} {a b n k x y : Nat} {A B : Srv} (hx : x = a + k) (hy : y = b + k) (hk : k < n) (hab : a + n ≤ b) (hA : swp f a b k x = A) (hB : swp f a b k y = B) :
    ∀ i, upd (upd (swp f a b k) x B) y A i = swp f a b (k + 1) i := by
  intro i
  have eA : A = f (a + k) := by rw [← hA, hx]; unfold swp; rw [if_neg (by omega), if_neg (by omega)]
  have eB : B = f (b + k) := by rw [← hB, hy]; unfold swp; rw [if_neg (by omega), if_neg (by omega)]
  unfold upd
  by_cases h1 : i = y
  · rw [if_pos h1, eA]; unfold swp; rw [if_neg (by omega), if_pos (by omega)]; congr 1; omega
  · rw [if_neg h1]
    by_cases h2 : i = x
    · rw [if_pos h2, eB]; unfold swp; rw [if_pos (by omega)]; congr 1; omega
    · rw [if_neg h2]
      unfold swp
      by_cases c1 : a ≤ i ∧ i < a + k
      · rw [if_pos c1, if_pos (by omega)]
      · by_cases c2 : b ≤ i ∧ i < b + k
        · rw [if_neg c1, if_pos c2, if_neg (by omega), if_pos (by omega)]
        · rw [if_neg c1, if_neg c2, if_neg (by omega), if_neg (by omega)]

theorem grownBy_drew {w w' : World} {row : Option Nat} (h : w.grownBy w' row) : w.grownBy w'.drew row := ⟨h.os, h.tape, h.output, h.size, h.block⟩
theorem Own_drew {e : TypeId} {w : World} {g n : Nat} {f : Nat → Srv} (h : Own e w g n f) : Own e w.drew g n f := h

set_option maxHeartbeats 1000000 in
theorem swapRange_any (g N c a b n : Nat) (cmp : Value) (f : Nat → Srv) (w : World) (hN : N ≤ 1048576) (ho : Own 39 w g N f) (hab : a + n ≤ b) (hb : b + n ≤ N) :
    Calls Tryd.prog 38 #[.slice (some ⟨g, 0, none⟩) N c, .int .i64 a, .int .i64 b, .int .i64 n, cmp] w fun e w' => e = .returned (.tuple #[]) ∧ Own 39 w' g N (swp f a b n) ∧ w.grownBy w' (some g) := by
  go_enter Tryd.func38, Tryd.ntmps38
  go_wp2
  go_loopw [10] (fun i wr => ∃ k : Nat, k ≤ n ∧ i = .int .i64 k ∧ Own 39 wr g N (swp f a b k) ∧ w.grownBy wr (some g)) (fun i _ => n - (intOf i).toNat)
  case atStart => exact ⟨0, Nat.zero_le _, rfl, ho.congr (fun i _ => by unfold swp; rw [if_neg (by omega), if_neg (by omega)]), World.grownBy.refl _ _⟩
  case round =>
    obtain ⟨k, hk, rfl, hr, hgr⟩ := hrel
    by_cases hlt : k < n
    · obtain ⟨x, hx⟩ : ∃ x, x = a + k := ⟨_, rfl⟩
      obtain ⟨y, hy⟩ : ∃ y, y = b + k := ⟨_, rfl⟩
      have ea : (a : Int) + (k : Int) = (x : Int) := by omega
      have eb : (b : Int) + (k : Int) = (y : Int) := by omega
      have l1 : x < N := by omega
      have l2 : y < N := by omega
      have hne : x < y := by omega
      have HX : Hid (x = a + k ∧ y = b + k) := ⟨hx, hy⟩
      clear hx hy
      obtain ⟨p0, p1, p2, p3⟩ := hr.cells (i := x) (by omega)
      obtain ⟨q0, q1, q2, q3⟩ := hr.cells (i := y) (by omega)
      obtain ⟨z0, z1, z2, z3⟩ := hr.room x
      obtain ⟨y0, y1, y2, y3⟩ := hr.room y
      generalize hA : swp f a b k x = A at p0 p1 p2 p3
      generalize hB : swp f a b k y = B at q0 q1 q2 q3
      have HA : Hid (swp f a b k x = A) := hA
      have HB : Hid (swp f a b k y = B) := hB
      clear hA hB
      go_wp2
      go_region
      clear p0 p1 p2 p3 q0 q1 q2 q3 z0 z1 z2 z3 y0 y1 y2 y3
      go_wp2
      go_roundw
      case rel => exact ⟨k + 1, by omega, by go_num, Own_drew (((hr.set x B).set y A).congr fun i _ => swp_next HX.out.1 HX.out.2 hlt hab HA.out HB.out i), grownBy_drew (grownBy_set4 (grownBy_set4 hgr _ _ _ _ _) _ _ _ _ _)⟩
      case measure => simp [intOf]; omega
    · have ek : k = n := by omega
      subst ek
      go_wp2
      go_end0
      exact ⟨rfl, hr, hgr⟩

set_option maxHeartbeats 1000000 in
theorem rotate_any (g N c a m b : Nat) (cmp : Value) (f : Nat → Srv) (w : World) (hN : N ≤ 1048576) (ho : Own 39 w g N f) (ham : a < m) (hmb : m < b) (hb : b ≤ N) :
    Calls Tryd.prog 37 #[.slice (some ⟨g, 0, none⟩) N c, .int .i64 a, .int .i64 m, .int .i64 b, cmp] w fun e w' => e = .returned (.tuple #[]) ∧ Own 39 w' g N (rot f a m b) ∧ w.grownBy w' (some g) := by
  obtain ⟨i0, hi0⟩ : ∃ i, i = m - a := ⟨_, rfl⟩
  obtain ⟨j0, hj0⟩ : ∃ j, j = b - m := ⟨_, rfl⟩
  have ei : (m : Int) - (a : Int) = (i0 : Int) := by omega
  have ej : (b : Int) - (m : Int) = (j0 : Int) := by omega
  have H0 : Hid (i0 = m - a ∧ j0 = b - m) := ⟨hi0, hj0⟩
  clear hi0 hj0
  go_enter Tryd.func37, Tryd.ntmps37
  go_wp2
  clear ei ej
  go_loopw [10, 11] (fun vi vj wr => ∃ i j : Nat, 0 < i ∧ 0 < j ∧ i ≤ m ∧ m + j ≤ b ∧ vi = .int .i64 i ∧ vj = .int .i64 j ∧ (∃ fr, Own 39 wr g N fr ∧ rot fr (m - i) m (m + j) = rot f a m b) ∧ w.grownBy wr (some g)) (fun vi vj _ => (intOf vi).toNat + (intOf vj).toNat)
  case atStart =>
    obtain ⟨h1, h2⟩ := H0.out
    exact ⟨i0, j0, by omega, by omega, by omega, by omega, rfl, rfl, ⟨f, ho, by rw [show m - i0 = a by omega, show m + j0 = b by omega]⟩, World.grownBy.refl _ _⟩
  case round =>
    obtain ⟨i, j, hi, hj, him, hjb, rfl, rfl, ⟨fr, hr, hrot⟩, hgr⟩ := hrel
    have HR : Hid (rot fr (m - i) m (m + j) = rot f a m b) := hrot
    clear hrot H0
    obtain ⟨x, hx⟩ : ∃ x, x = m - i := ⟨_, rfl⟩
    have ex : (m : Int) - (i : Int) = (x : Int) := by omega
    have HX : Hid (x = m - i) := hx
    clear hx
    rcases Nat.lt_trichotomy i j with hij | hij | hij
    · obtain ⟨y, hy⟩ : ∃ y, y = m + j - i := ⟨_, rfl⟩
      obtain ⟨d, hd⟩ : ∃ d, d = j - i := ⟨_, rfl⟩
      have ey : (m : Int) + (j : Int) - (i : Int) = (y : Int) := by omega
      have ed : (j : Int) - (i : Int) = (d : Int) := by omega
      have HY : Hid (y = m + j - i ∧ d = j - i) := ⟨hy, hd⟩
      have hne : ((i : Int) != (j : Int)) = true := by simp; omega
      clear hy hd
      go_wp2_with fail
      refine (swapRange_any g N c x y i cmp fr _ hN hr (by have := HX.out; have := HY.out; omega) (by have := HX.out; have := HY.out; omega)).mono ?_
      rintro e w1 ⟨rfl, hr1, hg1⟩
      go_wp2
      go_roundw
      case rel =>
        obtain ⟨hy, hd⟩ := HY.out
        have hx := HX.out
        exact ⟨i, d, hi, by omega, him, by omega, rfl, rfl, ⟨_, hr1, by rw [hx, hy, show m + d = m + j - i by omega, rot_step2 fr m i j him hij]; exact HR.out⟩, World.grownBy.trans' hgr hg1⟩
      case measure => have := HY.out; simp [intOf]; omega
    · subst hij
      have hne : ((i : Int) != (i : Int)) = false := by simp
      go_wp2_with fail
      refine (swapRange_any g N c x m i cmp fr _ hN hr (by have := HX.out; omega) (by omega)).mono ?_
      rintro e w1 ⟨rfl, hr1, hg1⟩
      go_wp2
      go_end0
      refine ⟨rfl, ?_, World.grownBy.trans' hgr hg1⟩
      rw [HX.out, rot_last fr m i him, HR.out] at hr1
      exact hr1
    · obtain ⟨d, hd⟩ : ∃ d, d = i - j := ⟨_, rfl⟩
      have ed : (i : Int) - (j : Int) = (d : Int) := by omega
      have HD : Hid (d = i - j) := hd
      have hne : ((i : Int) != (j : Int)) = true := by simp; omega
      clear hd
      go_wp2_with fail
      refine (swapRange_any g N c x m j cmp fr _ hN hr (by have := HX.out; omega) (by omega)).mono ?_
      rintro e w1 ⟨rfl, hr1, hg1⟩
      go_wp2
      go_roundw
      case rel =>
        have hd := HD.out
        have hx := HX.out
        exact ⟨d, j, by omega, hj, by omega, hjb, rfl, rfl, ⟨_, hr1, by rw [hx, show m - d = m - i + j by omega, rot_step1 fr m i j him hij]; exact HR.out⟩, World.grownBy.trans' hgr hg1⟩
      case measure => have := HD.out; simp [intOf]; omega
end Go.Proofs.Qxb6613060aDoor
