/-
  SEAT b6613060aD: the walk of insertionSortCmpFunc.
-/
import Derived.Test.Qxb6613060aDoorCmp
import Derived.Test.Qxb6613060aDoorRotate
import Derived.Deep.RegionHeld3
import Derived.BigQuiet
namespace Go.Proofs.Qxb6613060aDoor
open Go.ChangeShapes Go.WideShapes Go.ChangeAt Go.RowKit

theorem grownBy_drewN {w w' : World} {row : Option Nat} {n : Nat} (h : w.grownBy w' row) : w.grownBy (w'.drewN n) row := ⟨h.os, h.tape, h.output, h.size, h.block⟩

set_option maxHeartbeats 2000000 in
theorem insertion_any (g N c a b : Nat) (f : Nat → Srv) (w : World) (hN : N ≤ 1048576) (ho : Own 39 w g N f) (hab : a ≤ b) (hb : b ≤ N) :
    Calls Tryd.prog 34 #[.slice (some ⟨g, 0, none⟩) N c, .int .i64 a, .int .i64 b, cmpV] w fun e w' => e = .returned (.tuple #[]) ∧ (∃ f', Own 39 w' g N f' ∧ Stb f f' a b ∧ SortedOn f' a b) ∧ w.grownBy w' (some g) := by
  unfold cmpV
  go_enter Tryd.func34, Tryd.ntmps34
  go_wp2
  go_loopw [8, 9] (fun vi _ wr => ∃ i : Nat, a < i ∧ i ≤ b + 1 ∧ vi = .int .i64 i ∧ (∃ fr, Own 39 wr g N fr ∧ Stb f fr a b ∧ SortedOn fr a i) ∧ w.grownBy wr (some g)) (fun vi _ _ => b + 1 - (intOf vi).toNat)
  case atStart => exact ⟨a + 1, by omega, by omega, by go_num, ⟨f, ho, Stb.refl _ _ _, fun i j h1 h2 h3 => by omega⟩, World.grownBy.refl _ _⟩
  case round =>
    obtain ⟨i, hai, hib, rfl, ⟨f1, hr1, hst1, hso1⟩, hgr1⟩ := hrel
    by_cases hlt : i < b
    · go_wp2
      go_loopw [9] (fun vj wr => ∃ j : Nat, a ≤ j ∧ j ≤ i ∧ vj = .int .i64 j ∧ (∃ fr, Own 39 wr g N fr ∧ Stb f fr a b ∧ Ins fr a j i) ∧ w.grownBy wr (some g)) (fun vj _ => (intOf vj).toNat)
      case atStart => exact ⟨i, by omega, Nat.le_refl _, rfl, ⟨f1, hr1, hst1, Ins.start hso1⟩, hgr1⟩
      case round =>
        clear hr1 hst1 hso1 hgr1
        obtain ⟨j, haj, hji, rfl, ⟨fr, hr, hst, hins⟩, hgr⟩ := hrel
        by_cases hj : a < j
        · obtain ⟨y, rfl⟩ : ∃ y, j = y + 1 := ⟨j - 1, by omega⟩
          obtain ⟨j, hjy⟩ : ∃ j, j = y + 1 := ⟨_, rfl⟩
          have HJ : Hid (j = y + 1) := hjy
          have ecast : ((y + 1 : Nat) : Int) = (j : Int) := by omega
          have ey : (j : Int) - 1 = (y : Int) := by omega
          have l1 : y < N := by omega
          have l2 : j < N := by omega
          have l3 : y < j := by omega
          have l4 : a ≤ y := by omega
          have l5 : a < j := by omega
          have l6 : y < i := by omega
          rw [ecast]
          obtain ⟨p0, p1, p2, p3⟩ := hr.cells (i := j) l2
          obtain ⟨q0, q1, q2, q3⟩ := hr.cells (i := y) l1
          clear hjy ecast hj haj hji
          generalize hA : fr j = A at p0 p1 p2 p3
          generalize hB : fr y = B at q0 q1 q2 q3
          have HA : Hid (fr j = A ∧ fr y = B) := ⟨hA, hB⟩
          clear hA hB
          have hg := hr.lt
          have iy0 : (0 : Int) ≤ (y : Int) := by omega
          have iy1 : (y : Int) < (N : Int) := by omega
          have ij0 : (0 : Int) ≤ (j : Int) := by omega
          have ij1 : (j : Int) < (N : Int) := by omega
          have iw : IntKind.i64.wrap (y : Int) = (y : Int) := by rw [IntKind.wrap_i64]; omega
          go_wp2
          go_region_held3 (fun w' => w'.cell? ⟨g, j * 4, none⟩ = some (.string A.id) ∧ w'.cell? ⟨g, j * 4 + 1, none⟩ = some (.string A.addr) ∧ w'.cell? ⟨g, j * 4 + 2, none⟩ = some (.string A.api) ∧ w'.cell? ⟨g, j * 4 + 3, none⟩ = some (.bool A.non) ∧ w'.cell? ⟨g, y * 4, none⟩ = some (.string B.id) ∧ w'.cell? ⟨g, y * 4 + 1, none⟩ = some (.string B.addr) ∧ w'.cell? ⟨g, y * 4 + 2, none⟩ = some (.string B.api) ∧ w'.cell? ⟨g, y * 4 + 3, none⟩ = some (.bool B.non)) (go_keep) ((go_at_call 22; refine (cmp_any A B _).mono ?_; rintro e w1 ⟨rfl, hb1⟩; have hc1 : ∀ o, w1.cell? ⟨g, o, none⟩ = wr.cell? ⟨g, o, none⟩ := fun o => hb1.cell (p := ⟨g, o, none⟩) hg))
          have hr2 : Own 39 w1 g N fr := (Own_drew hr).below hb1 hg
          have hgr2 : w.grownBy w1 (some g) := World.grownBy.trans' (grownBy_drew hgr) (grownBy_of_below hb1)
          clear p0 p1 p2 p3 q0 q1 q2 q3 hc1 hb1 hr hgr
          by_cases hcmp : Lib.compareBytes A.key B.key < 0
          · obtain ⟨p0, p1, p2, p3⟩ := hr2.cells (i := j) l2
            obtain ⟨q0, q1, q2, q3⟩ := hr2.cells (i := y) l1
            obtain ⟨z0, z1, z2, z3⟩ := hr2.room j
            obtain ⟨y0, y1, y2, y3⟩ := hr2.room y
            rw [HA.out.1] at p0 p1 p2 p3
            rw [HA.out.2] at q0 q1 q2 q3
            go_wp2
            go_region
            clear p0 p1 p2 p3 q0 q1 q2 q3 z0 z1 z2 z3 y0 y1 y2 y3
            go_wp2
            go_roundw
            case rel =>
              have hjy := HJ.out
              subst hjy
              obtain ⟨hA, hB⟩ := HA.out
              subst hA; subst hB
              exact ⟨y, l4, by omega, rfl, ⟨_, Own_drew (((hr2.set (y + 1) (fr y)).set y (fr (y + 1))).congr fun i _ => rot1_upd i), hst.trans ((Stb_rot1 hcmp).widen l4 (by omega) (by omega)), hins.step l4 hcmp⟩, grownBy_drew (grownBy_set4 (grownBy_set4 hgr2 _ _ _ _ _) _ _ _ _ _)⟩
            case measure => simp [intOf]; omega
          · go_wp2
            go_roundw
            case rel =>
              have hjy := HJ.out
              subst hjy
              obtain ⟨hA, hB⟩ := HA.out
              subst hA; subst hB
              exact ⟨i + 1, by omega, by omega, by go_num, ⟨fr, hr2, hst, hins.done (by omega) (Or.inr hcmp)⟩, hgr2⟩
            case measure => simp [intOf]; omega
        · have hjaz : decide ((a : Int) < (j : Int)) = false := decide_eq_false (by omega)
          have hjaz' : ¬ (a : Int) < (j : Int) := by omega
          go_wp2
          go_quiet (fail)
          go_wp2
          go_roundw
          case rel => exact ⟨i + 1, by omega, by omega, by go_num, ⟨fr, hr, hst, hins.done (by omega) (Or.inl (by omega))⟩, grownBy_drewN hgr⟩
          case measure => simp [intOf]; omega
    · go_wp2
      go_end0
      exact ⟨rfl, ⟨f1, hr1, hst1, hso1.sub (Nat.le_refl _) (by omega)⟩, hgr1⟩
end Go.Proofs.Qxb6613060aDoor
