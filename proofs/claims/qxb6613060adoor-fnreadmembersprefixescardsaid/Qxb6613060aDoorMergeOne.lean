/-
  SEAT b6613060aD: the walk of symMergeCmpFunc where one of the runs has one element.
-/
import Derived.Test.Qxb6613060aDoorMerge
import Derived.Test.Qxb6613060aDoorInsertion
namespace Go.Proofs.Qxb6613060aDoor
open Go.ChangeShapes Go.WideShapes Go.ChangeAt Go.RowKit
set_option linter.unusedVariables false

/-- what symMerge owes -/
def Merges (g N a b : Nat) (f : Nat → Srv) (w : World) (e : Ending) (w' : World) : Prop :=
  e = .returned (.tuple #[]) ∧ (∃ f', Own 39 w' g N f' ∧ Stb f f' a b ∧ SortedOn f' a b) ∧ w.grownBy w' (some g)

set_option maxHeartbeats 2000000 in
set_option maxRecDepth 100000 in
theorem merge_one_left (g N c a b : Nat) (f : Nat → Srv) (w : World) (hN : N ≤ 1048576) (ho : Own 39 w g N f) (hab : a + 1 < b) (hb : b ≤ N) (hs : SortedOn f (a + 1) b) :
    Calls Tryd.prog 35 #[.slice (some ⟨g, 0, none⟩) N c, .int .i64 a, .int .i64 ((a + 1 : Nat) : Int), .int .i64 b, cmpV] w (Merges g N a b f w) := by
  unfold cmpV
  obtain ⟨m, hm⟩ : ∃ m, m = a + 1 := ⟨_, rfl⟩
  rw [← hm] at hs ⊢
  have HM : Hid (m = a + 1) := hm
  have hma : ((m : Int) - (a : Int) == 1) = true := by simp; omega
  have l1 : a < m := by omega
  have l2 : m < b := by omega
  have l3 : m ≤ a + 1 := by omega
  clear hm hab
  go_enter Tryd.func35, Tryd.ntmps35
  go_wp2
  clear hma
  go_loopw [10, 11, 12] (fun vi vj _ wr => ∃ i j : Nat, m ≤ i ∧ i ≤ j ∧ j ≤ b ∧ vi = .int .i64 i ∧ vj = .int .i64 j ∧ Hid ((∀ h, m ≤ h → h < i → lt (f h) (f a)) ∧ (∀ h, j ≤ h → h < b → ¬ lt (f h) (f a))) ∧ Own 39 wr g N f ∧ w.grownBy wr (some g)) (fun vi vj _ _ => (intOf vj).toNat - (intOf vi).toNat)
  case atStart => exact ⟨m, b, Nat.le_refl _, by omega, Nat.le_refl _, rfl, rfl, ⟨fun h h1 h2 => by omega, fun h h1 h2 => by omega⟩, ho, World.grownBy.refl _ _⟩
  case round =>
    obtain ⟨i, j, hmi, hij, hjb, rfl, rfl, HH, hr, hgr⟩ := hrel
    by_cases hlt : i < j
    · obtain ⟨h, hh⟩ : ∃ h, h = (i + j) / 2 := ⟨_, rfl⟩
      have eh : ((i : Int) + (j : Int)) / 2 = (h : Int) := by omega
      have h1 : i ≤ h := by omega
      have h2 : h < j := by omega
      have lx : h < N := by omega
      have ly : a < N := by omega
      clear hh
      obtain ⟨p0, p1, p2, p3⟩ := hr.cells (i := h) lx
      obtain ⟨q0, q1, q2, q3⟩ := hr.cells (i := a) ly
      generalize hA : f h = A at p0 p1 p2 p3
      generalize hB : f a = B at q0 q1 q2 q3
      have HA : Hid (f h = A ∧ f a = B) := ⟨hA, hB⟩
      clear hA hB
      have hg := hr.lt
      have ix0 : (0 : Int) ≤ (h : Int) := by omega
      have ix1 : (h : Int) < (N : Int) := by omega
      have iy0 : (0 : Int) ≤ (a : Int) := by omega
      have iy1 : (a : Int) < (N : Int) := by omega
      go_wp2
      go_region_held3 (fun w' => w'.cell? ⟨g, h * 4, none⟩ = some (.string A.id) ∧ w'.cell? ⟨g, h * 4 + 1, none⟩ = some (.string A.addr) ∧ w'.cell? ⟨g, h * 4 + 2, none⟩ = some (.string A.api) ∧ w'.cell? ⟨g, h * 4 + 3, none⟩ = some (.bool A.non) ∧ w'.cell? ⟨g, a * 4, none⟩ = some (.string B.id) ∧ w'.cell? ⟨g, a * 4 + 1, none⟩ = some (.string B.addr) ∧ w'.cell? ⟨g, a * 4 + 2, none⟩ = some (.string B.api) ∧ w'.cell? ⟨g, a * 4 + 3, none⟩ = some (.bool B.non)) (go_keep) ((go_at_call 22; refine (cmp_any A B _).mono ?_; rintro e w1 ⟨rfl, hb1⟩; have hc1 : ∀ o, w1.cell? ⟨g, o, none⟩ = wr.cell? ⟨g, o, none⟩ := fun o => hb1.cell (p := ⟨g, o, none⟩) hg))
      have hr2 : Own 39 w1 g N f := (Own_drew hr).below hb1 hg
      have hgr2 : w.grownBy w1 (some g) := World.grownBy.trans' (grownBy_drew hgr) (grownBy_of_below hb1)
      clear p0 p1 p2 p3 q0 q1 q2 q3 hc1 hb1 hr hgr
      by_cases hcmp : Lib.compareBytes A.key B.key < 0
      all_goals
        go_wp2
        go_roundw
        case rel =>
          obtain ⟨hA, hB⟩ := HA.out
          subst hA; subst hB
          obtain ⟨hlo, hhi⟩ := HH.out
          first
            | exact ⟨h + 1, j, by omega, by omega, hjb, by go_num, rfl, ⟨fun t t1 t2 => lt_of_le_of_lt (hs.le t1 (by omega) (by omega)) hcmp, hhi⟩, hr2, hgr2⟩
            | exact ⟨i, h, hmi, h1, by omega, rfl, rfl, ⟨hlo, fun t t1 t2 ht => hcmp (lt_of_le_of_lt (hs.le (by omega) t1 t2) ht)⟩, hr2, hgr2⟩
        case measure => simp [intOf]; omega
    · have e1 : i = j := by omega
      subst e1
      clear hlt hij
      go_wp2
      go_loopw [13] (fun vk wr => ∃ k : Nat, a ≤ k ∧ k + 1 ≤ i ∧ vk = .int .i64 k ∧ Own 39 wr g N (rot f a (a + 1) (k + 1)) ∧ w.grownBy wr (some g)) (fun vk _ => i - (intOf vk).toNat)
      case atStart => exact ⟨a, Nat.le_refl _, by omega, rfl, by rw [rot_none]; exact hr, hgr⟩
      case round =>
        clear hr hgr
        obtain ⟨k, hak, hki, rfl, hr, hgr⟩ := hrel
        obtain ⟨i1, hi1⟩ : ∃ i1, i1 + 1 = i := ⟨i - 1, by omega⟩
        have ei1 : (i : Int) - 1 = (i1 : Int) := by omega
        have HI : Hid (i1 + 1 = i) := hi1
        have l5 : k ≤ i1 := by omega
        by_cases hlt : k < i1
        · obtain ⟨y, hy⟩ : ∃ y, y = k + 1 := ⟨_, rfl⟩
          have ey : (k : Int) + 1 = (y : Int) := by omega
          have HY : Hid (y = k + 1) := hy
          have lx : k < N := by omega
          have ly : y < N := by omega
          have lxy : k < y := by omega
          clear hi1 hy
          obtain ⟨p0, p1, p2, p3⟩ := hr.cells (i := k) lx
          obtain ⟨q0, q1, q2, q3⟩ := hr.cells (i := y) ly
          obtain ⟨z0, z1, z2, z3⟩ := hr.room k
          obtain ⟨y0, y1, y2, y3⟩ := hr.room y
          generalize hA : rot f a (a + 1) (k + 1) k = A at p0 p1 p2 p3
          generalize hB : rot f a (a + 1) (k + 1) y = B at q0 q1 q2 q3
          have HA : Hid (rot f a (a + 1) (k + 1) k = A ∧ rot f a (a + 1) (k + 1) y = B) := ⟨hA, hB⟩
          clear hA hB
          go_wp2
          go_region
          clear p0 p1 p2 p3 q0 q1 q2 q3 z0 z1 z2 z3 y0 y1 y2 y3
          go_wp2
          go_roundw
          case rel =>
            have hy := HY.out
            subst hy
            obtain ⟨hA, hB⟩ := HA.out
            have hi1 := HI.out
            subst hA; subst hB
            exact ⟨k + 1, by omega, by omega, by go_num, Own_drew (((hr.set k _).set (k + 1) _).congr fun t _ => (rot1_upd' t).trans (congrFun (rot_left_next f a k hak) t)), grownBy_drew (grownBy_set4 (grownBy_set4 hgr _ _ _ _ _) _ _ _ _ _)⟩
          case measure => have := HI.out; simp [intOf]; omega
        · clear hi1
          go_wp2
          go_end0
          have hi1 := HI.out
          obtain ⟨hlo, hhi⟩ := HH.out
          have hm := HM.out
          subst hm
          have e2 : k + 1 = i := by omega
          rw [e2] at hr
          have D := done_one_left hmi hjb hs hlo hhi
          exact ⟨rfl, ⟨_, hr, D.1, D.2⟩, hgr⟩

set_option maxHeartbeats 2000000 in
set_option maxRecDepth 100000 in
theorem merge_one_right (g N c a m : Nat) (f : Nat → Srv) (w : World) (hN : N ≤ 1048576) (ho : Own 39 w g N f) (ham : a + 1 < m) (hb : m + 1 ≤ N) (hs : SortedOn f a m) :
    Calls Tryd.prog 35 #[.slice (some ⟨g, 0, none⟩) N c, .int .i64 a, .int .i64 m, .int .i64 ((m + 1 : Nat) : Int), cmpV] w (Merges g N a (m + 1) f w) := by
  unfold cmpV
  obtain ⟨b, hbm⟩ : ∃ b, b = m + 1 := ⟨_, rfl⟩
  rw [← hbm]
  have HM : Hid (b = m + 1) := hbm
  have hma : ((m : Int) - (a : Int) == 1) = false := by simp; omega
  have hmb : ((b : Int) - (m : Int) == 1) = true := by simp; omega
  have l1 : m < b := by omega
  have l2 : b ≤ N := by omega
  clear hbm hb
  go_enter Tryd.func35, Tryd.ntmps35
  go_wp2
  clear hma hmb
  go_loopw [14, 15, 16] (fun vi vj _ wr => ∃ i j : Nat, a ≤ i ∧ i ≤ j ∧ j ≤ m ∧ vi = .int .i64 i ∧ vj = .int .i64 j ∧ Hid ((∀ h, a ≤ h → h < i → ¬ lt (f m) (f h)) ∧ (∀ h, j ≤ h → h < m → lt (f m) (f h))) ∧ Own 39 wr g N f ∧ w.grownBy wr (some g)) (fun vi vj _ _ => (intOf vj).toNat - (intOf vi).toNat)
  case atStart => exact ⟨a, m, Nat.le_refl _, by omega, Nat.le_refl _, rfl, rfl, ⟨fun h h1 h2 => by omega, fun h h1 h2 => by omega⟩, ho, World.grownBy.refl _ _⟩
  case round =>
    obtain ⟨i, j, hmi, hij, hjb, rfl, rfl, HH, hr, hgr⟩ := hrel
    by_cases hlt : i < j
    · obtain ⟨h, hh⟩ : ∃ h, h = (i + j) / 2 := ⟨_, rfl⟩
      have eh : ((i : Int) + (j : Int)) / 2 = (h : Int) := by omega
      have h1 : i ≤ h := by omega
      have h2 : h < j := by omega
      have lx : m < N := by omega
      have ly : h < N := by omega
      clear hh
      obtain ⟨p0, p1, p2, p3⟩ := hr.cells (i := m) lx
      obtain ⟨q0, q1, q2, q3⟩ := hr.cells (i := h) ly
      generalize hA : f m = A at p0 p1 p2 p3
      generalize hB : f h = B at q0 q1 q2 q3
      have HA : Hid (f m = A ∧ f h = B) := ⟨hA, hB⟩
      clear hA hB
      have hg := hr.lt
      have ix0 : (0 : Int) ≤ (m : Int) := by omega
      have ix1 : (m : Int) < (N : Int) := by omega
      have iy0 : (0 : Int) ≤ (h : Int) := by omega
      have iy1 : (h : Int) < (N : Int) := by omega
      go_wp2
      go_region_held3 (fun w' => w'.cell? ⟨g, m * 4, none⟩ = some (.string A.id) ∧ w'.cell? ⟨g, m * 4 + 1, none⟩ = some (.string A.addr) ∧ w'.cell? ⟨g, m * 4 + 2, none⟩ = some (.string A.api) ∧ w'.cell? ⟨g, m * 4 + 3, none⟩ = some (.bool A.non) ∧ w'.cell? ⟨g, h * 4, none⟩ = some (.string B.id) ∧ w'.cell? ⟨g, h * 4 + 1, none⟩ = some (.string B.addr) ∧ w'.cell? ⟨g, h * 4 + 2, none⟩ = some (.string B.api) ∧ w'.cell? ⟨g, h * 4 + 3, none⟩ = some (.bool B.non)) (go_keep) ((go_at_call 22; refine (cmp_any A B _).mono ?_; rintro e w1 ⟨rfl, hb1⟩; have hc1 : ∀ o, w1.cell? ⟨g, o, none⟩ = wr.cell? ⟨g, o, none⟩ := fun o => hb1.cell (p := ⟨g, o, none⟩) hg))
      have hr2 : Own 39 w1 g N f := (Own_drew hr).below hb1 hg
      have hgr2 : w.grownBy w1 (some g) := World.grownBy.trans' (grownBy_drew hgr) (grownBy_of_below hb1)
      clear p0 p1 p2 p3 q0 q1 q2 q3 hc1 hb1 hr hgr
      by_cases hcmp : Lib.compareBytes A.key B.key < 0
      · have hd : (!decide (Lib.compareBytes A.key B.key < 0)) = false := by rw [decide_eq_true hcmp]; rfl
        rw [hd]
        clear hd
        go_wp2
        go_roundw
        case rel =>
          obtain ⟨hA, hB⟩ := HA.out
          subst hA; subst hB
          obtain ⟨hlo, hhi⟩ := HH.out
          exact ⟨i, h, hmi, h1, by omega, rfl, rfl, ⟨hlo, fun t t1 t2 => lt_of_lt_of_le hcmp (hs.le (by omega) t1 t2)⟩, hr2, hgr2⟩
        case measure => simp [intOf]; omega
      · have hd : (!decide (Lib.compareBytes A.key B.key < 0)) = true := by rw [decide_eq_false hcmp]; rfl
        rw [hd]
        clear hd
        go_wp2
        go_roundw
        case rel =>
          obtain ⟨hA, hB⟩ := HA.out
          subst hA; subst hB
          obtain ⟨hlo, hhi⟩ := HH.out
          exact ⟨h + 1, j, by omega, by omega, hjb, by go_num, rfl, ⟨fun t t1 t2 ht => hcmp (lt_of_lt_of_le ht (hs.le t1 (by omega) (by omega))), hhi⟩, hr2, hgr2⟩
        case measure => simp [intOf]; omega
    · have e1 : i = j := by omega
      subst e1
      clear hlt hij
      go_wp2
      go_loopw [17] (fun vk wr => ∃ k : Nat, i ≤ k ∧ k ≤ m ∧ vk = .int .i64 k ∧ Own 39 wr g N (rot f k m (m + 1)) ∧ w.grownBy wr (some g)) (fun vk _ => (intOf vk).toNat)
      case atStart => exact ⟨m, hjb, Nat.le_refl _, rfl, by rw [rot_none' f m (m + 1) (by omega)]; exact hr, hgr⟩
      case round =>
        clear hr hgr
        obtain ⟨k, hik, hkm, rfl, hr, hgr⟩ := hrel
        by_cases hlt : i < k
        · obtain ⟨y, hy⟩ : ∃ y, y + 1 = k := ⟨k - 1, by omega⟩
          have ey : (k : Int) - 1 = (y : Int) := by omega
          have HY : Hid (y + 1 = k) := hy
          have lx : k < N := by omega
          have ly : y < N := by omega
          have lxy : y < k := by omega
          have iy0 : (0 : Int) ≤ (y : Int) := by omega
          have iw : IntKind.i64.wrap (y : Int) = (y : Int) := by rw [IntKind.wrap_i64]; omega
          clear hy
          obtain ⟨p0, p1, p2, p3⟩ := hr.cells (i := k) lx
          obtain ⟨q0, q1, q2, q3⟩ := hr.cells (i := y) ly
          obtain ⟨z0, z1, z2, z3⟩ := hr.room k
          obtain ⟨y0, y1, y2, y3⟩ := hr.room y
          generalize hA : rot f k m (m + 1) k = A at p0 p1 p2 p3
          generalize hB : rot f k m (m + 1) y = B at q0 q1 q2 q3
          have HA : Hid (rot f k m (m + 1) k = A ∧ rot f k m (m + 1) y = B) := ⟨hA, hB⟩
          clear hA hB
          go_wp2
          go_region
          clear p0 p1 p2 p3 q0 q1 q2 q3 z0 z1 z2 z3 y0 y1 y2 y3
          go_wp2
          go_roundw
          case rel =>
            have hy := HY.out
            subst hy
            obtain ⟨hA, hB⟩ := HA.out
            subst hA; subst hB
            exact ⟨y, by omega, by omega, rfl, Own_drew (((hr.set (y + 1) _).set y _).congr fun t _ => (rot1_upd t).trans (congrFun (rot_right_next f y m hkm) t)), grownBy_drew (grownBy_set4 (grownBy_set4 hgr _ _ _ _ _) _ _ _ _ _)⟩
          case measure => simp [intOf]; omega
        · go_wp2
          go_end0
          obtain ⟨hlo, hhi⟩ := HH.out
          have hbm := HM.out
          subst hbm
          have e2 : k = i := by omega
          rw [e2] at hr
          have D := done_one_right hmi hjb hs hlo hhi
          exact ⟨rfl, ⟨_, hr, D.1, D.2⟩, hgr⟩
end Go.Proofs.Qxb6613060aDoor
