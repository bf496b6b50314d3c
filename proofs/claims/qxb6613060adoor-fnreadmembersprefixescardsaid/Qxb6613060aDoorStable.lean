/-
  SEAT b6613060aD: the walks of stableCmpFunc and SortStableFunc.
-/
import Derived.Test.Qxb6613060aDoorMergeAll
namespace Go.Proofs.Qxb6613060aDoor
open Go.ChangeShapes Go.WideShapes Go.ChangeAt Go.RowKit
set_option linter.unusedVariables false

/-! ### The plain law of the blocks -/
/-- every block of bs elements is in order -/
def Blk (f : Nat → Srv) (bs n : Nat) : Prop := ∀ t, SortedOn f (bs * t) (min (bs * t + bs) n)

theorem SortedOn.none {f : Nat → Srv} {a b : Nat} (h : b ≤ a + 1) : SortedOn f a b := fun i j h1 h2 h3 => by omega

/-- the first pass -/
theorem blk_first {f : Nat → Srv} {q n : Nat} (h : ∀ t, t < q → SortedOn f (20 * t) (20 * t + 20)) (hl : SortedOn f (20 * q) n) (hq : n < 20 * q + 20) (hq' : 20 * q ≤ n) : Blk f 20 n := by
  intro t
  by_cases h1 : t < q
  · exact (h t h1).sub (Nat.le_refl _) (Nat.min_le_left _ _)
  · by_cases h2 : t = q
    · subst h2; exact hl.sub (Nat.le_refl _) (Nat.min_le_right _ _)
    · exact SortedOn.none (by omega)

/-- the state of a pass: the first q double blocks are in order, of the rest each single one -/
structure Pass (f : Nat → Srv) (bs n q : Nat) : Prop where
  done : ∀ t, t < q → SortedOn f (2 * bs * t) (2 * bs * t + 2 * bs)
  todo : ∀ t, 2 * q ≤ t → SortedOn f (bs * t) (min (bs * t + bs) n)

theorem dbl (bs q : Nat) : bs * (2 * q) = 2 * bs * q := by rw [← Nat.mul_assoc, Nat.mul_comm bs 2]
theorem dbl1 (bs q : Nat) : bs * (2 * q + 1) = 2 * bs * q + bs := by rw [Nat.mul_succ, dbl]

theorem Pass.start {f : Nat → Srv} {bs n : Nat} (h : Blk f bs n) : Pass f bs n 0 := ⟨fun t ht => by omega, fun t _ => h t⟩

theorem Pass.one {f : Nat → Srv} {bs n q : Nat} (h : Pass f bs n q) (hn : 2 * bs * q + bs ≤ n) : SortedOn f (2 * bs * q) (2 * bs * q + bs) := by
  have := h.todo (2 * q) (Nat.le_refl _)
  rw [dbl, Nat.min_eq_left hn] at this
  exact this

theorem Pass.two {f : Nat → Srv} {bs n q x : Nat} (h : Pass f bs n q) (hx : x ≤ 2 * bs * q + bs + bs) (hn : x ≤ n) : SortedOn f (2 * bs * q + bs) x := by
  have := h.todo (2 * q + 1) (by omega)
  rw [dbl1] at this
  exact this.sub (Nat.le_refl _) (Nat.le_min.2 ⟨hx, hn⟩)

theorem Pass.next {f f' : Nat → Srv} {bs n q : Nat} (h : Pass f bs n q) (hs : Stb f f' (2 * bs * q) (2 * bs * q + 2 * bs)) (ho : SortedOn f' (2 * bs * q) (2 * bs * q + 2 * bs)) : Pass f' bs n (q + 1) := by
  refine ⟨fun t ht => ?_, fun t ht => ?_⟩
  · by_cases e : t = q
    · subst e; exact ho
    · have : 2 * bs * t + 2 * bs ≤ 2 * bs * q := by
        have := Nat.mul_le_mul_left (2 * bs) (show t + 1 ≤ q by omega)
        rwa [Nat.mul_succ] at this
      exact (h.done t (by omega)).congr fun i _ h2 => hs.1 i (Or.inl (by omega))
  · have : 2 * bs * q + 2 * bs ≤ bs * t := by
      have := Nat.mul_le_mul_left bs (show 2 * (q + 1) ≤ t by omega)
      rw [dbl, Nat.mul_succ] at this
      exact this
    exact (h.todo t (by omega)).congr fun i h1 _ => hs.1 i (Or.inr (by omega))

/-- the last double block, which need not be full -/
theorem Pass.last {f : Nat → Srv} {bs n q : Nat} (h : Pass f bs n q) (hq : 2 * bs * q ≤ n) (hn : n < 2 * bs * q + 2 * bs) (ho : SortedOn f (2 * bs * q) n) : Blk f (2 * bs) n := by
  intro t
  by_cases h1 : t < q
  · exact (h.done t h1).sub (Nat.le_refl _) (Nat.min_le_left _ _)
  · by_cases h2 : t = q
    · subst h2; exact ho.sub (Nat.le_refl _) (Nat.min_le_right _ _)
    · have : 2 * bs * q + 2 * bs ≤ 2 * bs * t := by
        have := Nat.mul_le_mul_left (2 * bs) (show q + 1 ≤ t by omega)
        rwa [Nat.mul_succ] at this
      exact SortedOn.none (by have := Nat.min_le_right (2 * bs * t + 2 * bs) n; omega)

theorem Pass.short {f : Nat → Srv} {bs n q : Nat} (h : Pass f bs n q) (hn : n ≤ 2 * bs * q + bs) : SortedOn f (2 * bs * q) n := by
  have := h.todo (2 * q) (Nat.le_refl _)
  rw [dbl, Nat.min_eq_right hn] at this
  exact this

/-- a merge of the last two blocks keeps what was done -/
theorem Pass.keep {f f' : Nat → Srv} {bs n q : Nat} (h : Pass f bs n q) (hs : Stb f f' (2 * bs * q) n) : ∀ t, t < q → SortedOn f' (2 * bs * t) (2 * bs * t + 2 * bs) := fun t ht => by
  have : 2 * bs * t + 2 * bs ≤ 2 * bs * q := by
    have := Nat.mul_le_mul_left (2 * bs) (show t + 1 ≤ q by omega)
    rwa [Nat.mul_succ] at this
  exact (h.done t ht).congr fun i _ h2 => hs.1 i (Or.inl (by omega))

theorem blk_last {f : Nat → Srv} {bs n q : Nat} (hd : ∀ t, t < q → SortedOn f (2 * bs * t) (2 * bs * t + 2 * bs)) (hq : 2 * bs * q ≤ n) (hn : n < 2 * bs * q + 2 * bs) (ho : SortedOn f (2 * bs * q) n) : Blk f (2 * bs) n := by
  intro t
  by_cases h1 : t < q
  · exact (hd t h1).sub (Nat.le_refl _) (Nat.min_le_left _ _)
  · by_cases h2 : t = q
    · subst h2; exact ho.sub (Nat.le_refl _) (Nat.min_le_right _ _)
    · have : 2 * bs * q + 2 * bs ≤ 2 * bs * t := by
        have := Nat.mul_le_mul_left (2 * bs) (show q + 1 ≤ t by omega)
        rwa [Nat.mul_succ] at this
      exact SortedOn.none (by have := Nat.min_le_right (2 * bs * t + 2 * bs) n; omega)

set_option maxHeartbeats 4000000 in
set_option maxRecDepth 100000 in
theorem stable_any (g N c : Nat) (f : Nat → Srv) (w : World) (hN : N ≤ 1048576) (ho : Own 39 w g N f) :
    Calls Tryd.prog 31 #[.slice (some ⟨g, 0, none⟩) N c, .int .i64 N, cmpV] w (Merges g N 0 N f w) := by
  unfold cmpV
  go_enter Tryd.func31, Tryd.ntmps31
  go_wp2
  go_loopw [7, 8] (fun va vb wr => ∃ q a b : Nat, a ≤ N ∧ b = a + 20 ∧ va = .int .i64 a ∧ vb = .int .i64 b ∧ Hid (a = 20 * q) ∧ (∃ fr, Own 39 wr g N fr ∧ Hid (Stb f fr 0 N ∧ ∀ t, t < q → SortedOn fr (20 * t) (20 * t + 20))) ∧ w.grownBy wr (some g)) (fun va _ _ => N + 1 - (intOf va).toNat)
  case atStart => exact ⟨0, 0, 20, by omega, rfl, rfl, rfl, (rfl : (0 : Nat) = 20 * 0), ⟨f, ho, Stb.refl _ _ _, fun t ht => by omega⟩, World.grownBy.refl _ _⟩
  case round =>
    obtain ⟨q, a, b, haN, hab, rfl, rfl, HQ, ⟨fr, hr, HS⟩, hgr⟩ := hrel
    have HAB : Hid (b = a + 20) := hab
    have l1 : a + 20 ≤ b := by omega
    have l2 : b ≤ a + 20 := by omega
    clear hab
    by_cases hlt : b ≤ N
    · go_wp2_with fail
      refine (insertion_any g N c a b fr _ hN hr (by omega) hlt).mono ?_
      rintro e w1 ⟨rfl, ⟨f1, hr1, st1, so1⟩, hg1⟩
      go_wp2
      go_roundw
      case rel =>
        obtain ⟨hst, hdone⟩ := HS.out
        have hq := HQ.out
        have hb := HAB.out
        refine ⟨q + 1, b, b + 20, hlt, rfl, rfl, by go_num, (show b = 20 * (q + 1) by omega), ⟨f1, hr1, hst.trans (st1.widen (Nat.zero_le _) (by omega) hlt), fun t ht => ?_⟩, World.grownBy.trans' hgr hg1⟩
        by_cases e : t = q
        · subst e; rw [← hq, ← hb]; exact so1
        · exact (hdone t (by omega)).congr fun i _ h2 => st1.1 i (Or.inl (by omega))
      case measure => simp [intOf]; omega
    · go_wp2_with fail
      refine (insertion_any g N c a N fr _ hN hr haN (Nat.le_refl _)).mono ?_
      rintro e w1 ⟨rfl, ⟨f1, hr1, st1, so1⟩, hg1⟩
      have hgr1 := World.grownBy.trans' hgr hg1
      have HB : Hid (Stb f f1 0 N ∧ Blk f1 20 N) := by
        obtain ⟨hst, hdone⟩ := HS.out
        have hq := HQ.out
        refine ⟨hst.trans (st1.widen (Nat.zero_le _) haN (Nat.le_refl _)), blk_first (q := q) (fun t ht => (hdone t ht).congr fun i _ h2 => st1.1 i (Or.inl (by omega))) (by rw [← hq]; exact so1) (by omega) (by omega)⟩
      clear hr hgr hg1 st1 so1 HS HQ ho
      go_wp2
      go_loopw [6, 7, 8, 9] (fun vs _ _ _ wr => ∃ bs : Nat, 20 ≤ bs ∧ bs ≤ 2 * N + 20 ∧ vs = .int .i64 bs ∧ (∃ fr, Own 39 wr g N fr ∧ Hid (Stb f fr 0 N ∧ Blk fr bs N)) ∧ w.grownBy wr (some g)) (fun vs _ _ _ _ => N - (intOf vs).toNat)
      case atStart => exact ⟨20, by omega, by omega, rfl, ⟨f1, hr1, HB⟩, hgr1⟩
      case round =>
        clear hr1 HB hgr1
        obtain ⟨bs, hb1, hb2, rfl, ⟨f2, hr2, HB⟩, hgr2⟩ := hrel
        by_cases hlt2 : bs < N
        · obtain ⟨d, hd⟩ : ∃ d, d = 2 * bs := ⟨_, rfl⟩
          have ed : 2 * (bs : Int) = (d : Int) := by omega
          have ed' : (bs : Int) * 2 = (d : Int) := by omega
          have HD : Hid (d = 2 * bs) := hd
          have ld1 : d ≤ 2 * N := by omega
          have ld2 : bs < d := by omega
          have ld3 : d ≤ bs + bs := by omega
          have ld4 : bs + bs ≤ d := by omega
          clear hd
          go_wp2
          go_loopw [7, 8] (fun va vb wr => ∃ q A B : Nat, A ≤ N ∧ B = A + d ∧ va = .int .i64 A ∧ vb = .int .i64 B ∧ Hid (A = 2 * bs * q) ∧ (∃ fr, Own 39 wr g N fr ∧ Hid (Stb f fr 0 N ∧ Pass fr bs N q)) ∧ w.grownBy wr (some g)) (fun va _ _ => N + 1 - (intOf va).toNat)
          case atStart => exact ⟨0, 0, d, by omega, by omega, rfl, rfl, (rfl : (0 : Nat) = 2 * bs * 0), ⟨f2, hr2, HB.out.1, Pass.start HB.out.2⟩, hgr2⟩
          case round =>
            clear hr2 HB hgr2
            obtain ⟨q, A, B, hAN, hAB, rfl, rfl, HQ, ⟨f3, hr3, HS⟩, hgr3⟩ := hrel
            have HAB : Hid (B = A + d) := hAB
            have m1 : B ≤ A + d := by omega
            have m2 : A + d ≤ B := by omega
            obtain ⟨M, hM⟩ : ∃ M, M = A + bs := ⟨_, rfl⟩
            have eM : (A : Int) + (bs : Int) = (M : Int) := by omega
            have HM : Hid (M = A + bs) := hM
            have m3 : A < M := by omega
            have m4 : M < B := by omega
            clear hAB hM
            by_cases hlt3 : B ≤ N
            · go_wp2_with fail
              refine (merge_any g N c hN (B - A + 1) A M B f3 _ (by omega) hr3 m3 m4 hlt3 ?_ ?_).mono ?_
              · have h := HS.out.2.one (by have := HQ.out; have := HM.out; omega)
                rw [← HQ.out, ← HM.out] at h; exact h
              · have h := HS.out.2.two (x := B) (by have := HQ.out; have := HAB.out; have := HD.out; omega) hlt3
                rw [← HQ.out, ← HM.out] at h; exact h
              rintro e w4 ⟨rfl, ⟨f4, hr4, st4, so4⟩, hg4⟩
              go_wp2
              go_roundw
              case rel =>
                obtain ⟨hst, hp⟩ := HS.out
                have hq := HQ.out
                have hB := HAB.out
                have hd := HD.out
                rw [hB, hq, hd] at st4 so4
                exact ⟨q + 1, B, B + d, hlt3, rfl, rfl, by go_num, (show B = 2 * bs * (q + 1) by rw [Nat.mul_succ]; omega), ⟨f4, hr4, hst.trans (st4.widen (Nat.zero_le _) (by omega) (by omega)), hp.next st4 so4⟩, World.grownBy.trans' hgr3 hg4⟩
              case measure => simp [intOf]; omega
            · by_cases hlt4 : M < N
              · go_wp2_with fail
                refine (merge_any g N c hN (N - A + 1) A M N f3 _ (by omega) hr3 m3 hlt4 (Nat.le_refl _) ?_ ?_).mono ?_
                · have h := HS.out.2.one (by have := HQ.out; have := HM.out; omega)
                  rw [← HQ.out, ← HM.out] at h; exact h
                · have h := HS.out.2.two (x := N) (by have := HQ.out; have := HAB.out; have := HD.out; omega) (Nat.le_refl _)
                  rw [← HQ.out, ← HM.out] at h; exact h
                rintro e w4 ⟨rfl, ⟨f4, hr4, st4, so4⟩, hg4⟩
                go_wp2
                go_roundw
                case rel =>
                  obtain ⟨hst, hp⟩ := HS.out
                  have hq := HQ.out
                  have hd := HD.out
                  rw [hq] at st4 so4
                  refine ⟨d, by omega, by omega, rfl, ⟨f4, hr4, hst.trans (st4.widen (Nat.zero_le _) (by omega) (Nat.le_refl _)), ?_⟩, World.grownBy.trans' hgr3 hg4⟩
                  rw [hd]
                  exact blk_last (hp.keep st4) (by omega) (by omega) so4
                case measure => simp [intOf]; omega
              · go_wp2
                go_roundw
                case rel =>
                  obtain ⟨hst, hp⟩ := HS.out
                  have hq := HQ.out
                  have hd := HD.out
                  have hM := HM.out
                  refine ⟨d, by omega, by omega, rfl, ⟨f3, hr3, hst, ?_⟩, hgr3⟩
                  rw [hd]
                  exact hp.last (by omega) (by omega) (hp.short (by omega))
                case measure => simp [intOf]; omega
        · go_wp2
          go_end0
          obtain ⟨hst, hb⟩ := HB.out
          refine ⟨rfl, ⟨f2, hr2, hst, ?_⟩, hgr2⟩
          have h := hb 0
          rw [Nat.mul_zero, Nat.zero_add, Nat.min_eq_right (by omega)] at h
          exact h

/-- SortStableFunc(servers, by id) -/
theorem sortStable_any (g N c : Nat) (f : Nat → Srv) (w : World) (hN : N ≤ 1048576) (ho : Own 39 w g N f) :
    Calls Tryd.prog 21 #[.slice (some ⟨g, 0, none⟩) N c, cmpV] w (Merges g N 0 N f w) := by
  unfold cmpV
  go_enter Tryd.func21, Tryd.ntmps21
  go_wp2_with fail
  refine (stable_any g N c f _ hN ho).mono ?_
  rintro e w1 ⟨rfl, h1, h2⟩
  go_wp2
  go_end0
  exact ⟨rfl, h1, h2⟩
end Go.Proofs.Qxb6613060aDoor
