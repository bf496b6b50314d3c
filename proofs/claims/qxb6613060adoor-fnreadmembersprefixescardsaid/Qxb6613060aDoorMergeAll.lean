/-
  SEAT b6613060aD: the walk of symMergeCmpFunc, the general case, and the whole by induction.
-/
import Derived.Test.Qxb6613060aDoorMergeOne
namespace Go.Proofs.Qxb6613060aDoor
open Go.ChangeShapes Go.WideShapes Go.ChangeAt Go.RowKit
set_option linter.unusedVariables false

/-- the contract of symMerge on segments shorter than n -/
def MergesBelow (g N c n : Nat) : Prop := ∀ (a m b : Nat) (f : Nat → Srv) (w : World), b - a < n → Own 39 w g N f → a < m → m < b → b ≤ N → SortedOn f a m → SortedOn f m b →
  Calls Tryd.prog 35 #[.slice (some ⟨g, 0, none⟩) N c, .int .i64 a, .int .i64 m, .int .i64 b, cmpV] w (Merges g N a b f w)

set_option maxHeartbeats 4000000 in
set_option maxRecDepth 100000 in
theorem merge_general (g N c a m b : Nat) (f : Nat → Srv) (w : World) (IH : MergesBelow g N c (b - a)) (hN : N ≤ 1048576) (ho : Own 39 w g N f) (ham : a + 1 < m) (hmb : m + 1 < b) (hb : b ≤ N) (hs1 : SortedOn f a m) (hs2 : SortedOn f m b) :
    Calls Tryd.prog 35 #[.slice (some ⟨g, 0, none⟩) N c, .int .i64 a, .int .i64 m, .int .i64 b, cmpV] w (Merges g N a b f w) := by
  have HI : Hid (MergesBelow g N c (b - a)) := IH
  clear IH
  unfold cmpV
  have hma : ((m : Int) - (a : Int) == 1) = false := by simp; omega
  have hmb' : ((b : Int) - (m : Int) == 1) = false := by simp; omega
  obtain ⟨mid, hmid⟩ : ∃ mid, mid = (a + b) / 2 := ⟨_, rfl⟩
  have emid : ((a : Int) + (b : Int)) / 2 = (mid : Int) := by omega
  obtain ⟨n, hn⟩ : ∃ n, n = mid + m := ⟨_, rfl⟩
  have en : (mid : Int) + (m : Int) = (n : Int) := by omega
  obtain ⟨p, hp⟩ : ∃ p, p = n - 1 := ⟨_, rfl⟩
  have ep : (n : Int) - 1 = (p : Int) := by omega
  obtain ⟨lo, hlo⟩ : ∃ lo, lo = if mid < m then mid + m - b else a := ⟨_, rfl⟩
  obtain ⟨hi, hhi⟩ : ∃ hi, hi = if mid < m then mid else m := ⟨_, rfl⟩
  have ends := search_ends (by omega) (by omega) hmid hlo hhi
  have elo : mid < m → (n : Int) - (b : Int) = (lo : Int) := fun h => by rw [if_pos h] at hlo; omega
  obtain ⟨k1, k2, k3, k4, k5, k6, k7⟩ := ends
  have HP : Hid (mid = (a + b) / 2 ∧ n = mid + m ∧ p = n - 1 ∧ (lo = if mid < m then mid + m - b else a) ∧ (hi = if mid < m then mid else m)) := ⟨hmid, hn, hp, hlo, hhi⟩
  have k8 : n ≤ 2 * N := by omega
  have k10 : a < mid := by omega
  have k9 : p < n := by omega
  have hlo' : mid < m ∨ lo = a := by
    by_cases h : mid < m
    · exact Or.inl h
    · rw [if_neg h] at hlo; exact Or.inr hlo
  have hhi' : (mid < m ∧ hi = mid) ∨ (m ≤ mid ∧ hi = m) := by
    by_cases h : mid < m
    · rw [if_pos h] at hhi; exact Or.inl ⟨h, hhi⟩
    · rw [if_neg h] at hhi; exact Or.inr ⟨by omega, hhi⟩
  have HQ : Hid ((mid < m ∨ lo = a) ∧ ((mid < m ∧ hi = mid) ∨ (m ≤ mid ∧ hi = m))) := ⟨hlo', hhi'⟩
  clear hlo hhi hlo' hhi'
  rcases Nat.lt_or_ge mid m with hc | hc
  all_goals
    clear hmid hn hp
    go_enter Tryd.func35, Tryd.ntmps35
    first | (have el := elo hc; clear elo; go_wp2; clear el) | (have hdn : decide (mid < m) = false := decide_eq_false (by omega); clear elo; go_wp2; clear hdn)
    clear hma hmb'
    go_loopw [20, 21, 23] (fun vs vr _ wr => ∃ s r : Nat, lo ≤ s ∧ s ≤ r ∧ r ≤ hi ∧ vs = .int .i64 s ∧ vr = .int .i64 r ∧ Hid ((∀ t, lo ≤ t → t < s → ¬ lt (f (mid + m - 1 - t)) (f t)) ∧ (∀ t, r ≤ t → t < hi → lt (f (mid + m - 1 - t)) (f t))) ∧ Own 39 wr g N f ∧ w.grownBy wr (some g)) (fun vs vr _ _ => (intOf vr).toNat - (intOf vs).toNat)
    case atStart =>
      obtain ⟨q1, q2⟩ := HQ.out
      refine ⟨lo, hi, Nat.le_refl _, k1, Nat.le_refl _, ?_, ?_, ⟨fun t t1 t2 => by omega, fun t t1 t2 => by omega⟩, ho, World.grownBy.refl _ _⟩
      · first | rfl | (rw [show lo = a by omega])
      · first | rfl | (rw [show hi = mid by omega]) | (rw [show hi = m by omega])
    case round =>
      obtain ⟨s, r, hs, hsr, hrh, rfl, rfl, HH, hr, hgr⟩ := hrel
      by_cases hlt : s < r
      · obtain ⟨x, hx⟩ : ∃ x, x = (s + r) / 2 := ⟨_, rfl⟩
        have ex : ((s : Int) + (r : Int)) / 2 = (x : Int) := by omega
        have h1 : s ≤ x := by omega
        have h2 : x < r := by omega
        obtain ⟨i1, i2, i3, i4⟩ := search_in (c := x) (by omega) (by omega) HP.out.1 HP.out.2.2.2.1 HP.out.2.2.2.2 (by omega) (by omega)
        obtain ⟨d, hd⟩ : ∃ d, d = mid + m - 1 - x := ⟨_, rfl⟩
        have HD : Hid (d = mid + m - 1 - x) := hd
        have ed : (p : Int) - (x : Int) = (d : Int) := by have := HP.out; omega
        have lx : d < N := by omega
        have ly : x < N := by omega
        have iw : IntKind.i64.wrap (d : Int) = (d : Int) := by rw [IntKind.wrap_i64]; omega
        clear hx hd i1 i2 i3 i4
        obtain ⟨p0, p1, p2, p3⟩ := hr.cells (i := d) lx
        obtain ⟨q0, q1, q2, q3⟩ := hr.cells (i := x) ly
        generalize hA : f d = A at p0 p1 p2 p3
        generalize hB : f x = B at q0 q1 q2 q3
        have HA : Hid (f d = A ∧ f x = B) := ⟨hA, hB⟩
        clear hA hB
        have hg := hr.lt
        have ix0 : (0 : Int) ≤ (d : Int) := by omega
        have ix1 : (d : Int) < (N : Int) := by omega
        have iy0 : (0 : Int) ≤ (x : Int) := by omega
        have iy1 : (x : Int) < (N : Int) := by omega
        go_wp2
        go_region_held3 (fun w' => w'.cell? ⟨g, d * 4, none⟩ = some (.string A.id) ∧ w'.cell? ⟨g, d * 4 + 1, none⟩ = some (.string A.addr) ∧ w'.cell? ⟨g, d * 4 + 2, none⟩ = some (.string A.api) ∧ w'.cell? ⟨g, d * 4 + 3, none⟩ = some (.bool A.non) ∧ w'.cell? ⟨g, x * 4, none⟩ = some (.string B.id) ∧ w'.cell? ⟨g, x * 4 + 1, none⟩ = some (.string B.addr) ∧ w'.cell? ⟨g, x * 4 + 2, none⟩ = some (.string B.api) ∧ w'.cell? ⟨g, x * 4 + 3, none⟩ = some (.bool B.non)) (go_keep) ((go_at_call 22; refine (cmp_any A B _).mono ?_; rintro e w1 ⟨rfl, hb1⟩; have hc1 : ∀ o, w1.cell? ⟨g, o, none⟩ = wr.cell? ⟨g, o, none⟩ := fun o => hb1.cell (p := ⟨g, o, none⟩) hg))
        have hr2 : Own 39 w1 g N f := (Own_drew hr).below hb1 hg
        have hgr2 : w.grownBy w1 (some g) := World.grownBy.trans' (grownBy_drew hgr) (grownBy_of_below hb1)
        clear p0 p1 p2 p3 q0 q1 q2 q3 hc1 hb1 hr hgr
        by_cases hcmp : Lib.compareBytes A.key B.key < 0
        · have hd : (!decide (Lib.compareBytes A.key B.key < 0)) = false := by rw [decide_eq_true hcmp]; rfl
          rw [hd]
          clear hd
          go_wp2
          go_roundw
          case rel =>
            obtain ⟨hA, hB⟩ := HA.out
            obtain ⟨hl, hh⟩ := HH.out
            obtain ⟨e1, e2, e3, e4, e5⟩ := HP.out
            have hcmp' : lt (f (mid + m - 1 - x)) (f x) := by rw [← HD.out, hA, hB]; exact hcmp
            exact ⟨s, x, hs, h1, by omega, rfl, rfl, ⟨hl, search_left hs1 hs2 (by omega) (by omega) e1 e4 e5 (s := s) (by omega) hcmp'⟩, hr2, hgr2⟩
          case measure => simp [intOf]; omega
        · have hd : (!decide (Lib.compareBytes A.key B.key < 0)) = true := by rw [decide_eq_false hcmp]; rfl
          rw [hd]
          clear hd
          go_wp2
          go_roundw
          case rel =>
            obtain ⟨hA, hB⟩ := HA.out
            obtain ⟨hl, hh⟩ := HH.out
            obtain ⟨e1, e2, e3, e4, e5⟩ := HP.out
            have hcmp' : ¬ lt (f (mid + m - 1 - x)) (f x) := by rw [← HD.out, hA, hB]; unfold lt; omega
            exact ⟨x + 1, r, by omega, by omega, hrh, by go_num, rfl, ⟨search_right hs1 hs2 (by omega) (by omega) e1 e4 e5 (s := s) (by omega) hcmp', hh⟩, hr2, hgr2⟩
          case measure => simp [intOf]; omega
      · have e1 : s = r := by omega
        subst e1
        obtain ⟨e, he⟩ : ∃ e, e = mid + m - s := ⟨_, rfl⟩
        have ee : (n : Int) - (s : Int) = (e : Int) := by have := HP.out; omega
        have F : Found f a s m e b := by
          obtain ⟨q1, q2, q3, q4, q5⟩ := HP.out
          rw [he]
          exact found_of_search hs1 hs2 (by omega) (by omega) q1 q4 q5 hs hrh HH.out.1 HH.out.2
        have j1 := F.h1
        have j2 := F.h2
        have j3 := F.h3
        have j4 := F.h4
        have hmide : s + (e - m) = mid := by omega
        have HE : Hid (e = mid + m - s ∧ s + (e - m) = mid) := ⟨he, hmide⟩
        have j5 : s ≤ mid := by omega
        have j6 : mid ≤ e := by omega
        have HIW : Hid (MergesBelow g N c (b - a) ∧ mid < b ∧ a ≤ mid) := ⟨HI.out, k7, k6⟩
        clear hlt hsr hs HH
        have HM : Hid (s + (e - m) = mid) := hmide
        clear he hmide HE emid en ep HP HQ k1 k2 k3 k4 k5 k6 k8 k9 hrh
        by_cases c1 : s < m
        · by_cases c2 : m < e
          · have j7 : s < mid := by have := HM.out; omega
            have j8 : mid < e := by have := HM.out; omega
            go_wp2_with fail
            refine (rotate_any g N c s m e _ f _ hN hr c1 c2 (by omega)).mono ?_
            rintro e0 w1 ⟨rfl, hr1, hg1⟩
            have hgr1 := World.grownBy.trans' hgr hg1
            clear hr hgr hg1 ho
            by_cases c3 : a < s
            · go_wp2_with fail
              refine (HIW.out.1 a s mid (rot f s m e) _ (by omega) hr1 c3 j7 (by omega) F.run1 (F.run2' HM.out)).mono ?_
              rintro e0 w2 ⟨rfl, ⟨f2, hr2, st2, so2⟩, hg2⟩
              have hgr2 := World.grownBy.trans' hgr1 hg2
              clear hr1 hgr1 hg2
              by_cases c4 : e < b
              · go_wp2_with fail
                refine (HIW.out.1 mid e b f2 _ (by omega) hr2 j8 c4 hb (st2.upper (Nat.le_refl _) (F.run3' HM.out)) (st2.upper (by omega) F.run4)).mono ?_
                rintro e0 w3 ⟨rfl, ⟨f3, hr3, st3, so3⟩, hg3⟩
                go_wp2
                go_end0
                have D := F.whole' HM.out st2 so2 st3 so3
                exact ⟨rfl, ⟨f3, hr3, D.1, D.2⟩, World.grownBy.trans' hgr2 hg3⟩
              · go_wp2
                go_end0
                have D := F.whole' HM.out st2 so2 (Stb.refl _ _ _) (st2.upper (Nat.le_refl _) (F.half2' HM.out (Or.inr (by omega))))
                exact ⟨rfl, ⟨f2, hr2, D.1, D.2⟩, hgr2⟩
            · by_cases c4 : e < b
              · go_wp2_with fail
                refine (HIW.out.1 mid e b (rot f s m e) _ (by omega) hr1 j8 c4 hb (F.run3' HM.out) F.run4).mono ?_
                rintro e0 w3 ⟨rfl, ⟨f3, hr3, st3, so3⟩, hg3⟩
                go_wp2
                go_end0
                have D := F.whole' HM.out (Stb.refl _ _ _) (F.half1' HM.out (Or.inl (by omega))) st3 so3
                exact ⟨rfl, ⟨f3, hr3, D.1, D.2⟩, World.grownBy.trans' hgr1 hg3⟩
              · go_wp2
                go_end0
                have D := F.whole' HM.out (Stb.refl _ _ _) (F.half1' HM.out (Or.inl (by omega))) (Stb.refl _ _ _) (F.half2' HM.out (Or.inr (by omega)))
                exact ⟨rfl, ⟨_, hr1, D.1, D.2⟩, hgr1⟩
          · have e2 : e = m := by omega
            have j7 : s = mid := by have := HM.out; omega
            subst e2
            have hR : rot f s e e = f := rot_none f s e
            have D1 := F.half1' HM.out (Or.inr j7)
            have D3 := F.run3' HM.out
            have D4 := F.run4
            have HJ : Hid (s = mid) := j7
            have j8 : mid < e := by omega
            have j9 : ¬ s < mid := by omega
            have j12 : a < s := by omega
            have j10 : e < b := by omega
            rw [hR] at D1 D3 D4
            clear j7 hR
            go_wp2_with fail
            refine (HIW.out.1 mid e b f _ (by omega) hr j8 j10 hb D3 D4).mono ?_
            rintro e0 w3 ⟨rfl, ⟨f3, hr3, st3, so3⟩, hg3⟩
            go_wp2
            go_end0
            have D := F.whole' (f2 := f) (f3 := f3) HM.out (by rw [rot_none]; exact Stb.refl _ _ _) D1 st3 so3
            exact ⟨rfl, ⟨f3, hr3, D.1, D.2⟩, World.grownBy.trans' hgr hg3⟩
        · have e2 : s = m := by omega
          have j7 : e = mid := by have := HM.out; omega
          subst e2
          have hR : rot f s s e = f := rot_none' f s e (by omega)
          have D2 := F.run2' HM.out
          have D5 := F.half2' HM.out (Or.inl j7.symm)
          have D1 := F.run1
          have HJ : Hid (e = mid) := j7
          have j8 : ¬ mid < e := by omega
          have j10 : a < s := by omega
          rw [hR] at D1 D2 D5
          clear j7 hR
          by_cases c3 : s < mid
          · go_wp2_with fail
            refine (HIW.out.1 a s mid f _ (by omega) hr j10 c3 (by omega) D1 D2).mono ?_
            rintro e0 w2 ⟨rfl, ⟨f2, hr2, st2, so2⟩, hg2⟩
            go_wp2
            go_end0
            have D := F.whole' (f2 := f2) (f3 := f2) HM.out (by rw [rot_none' f s e (by omega)]; exact st2) so2 (Stb.refl _ _ _) (st2.upper (Nat.le_refl _) D5)
            exact ⟨rfl, ⟨f2, hr2, D.1, D.2⟩, World.grownBy.trans' hgr hg2⟩
          · have j11 : s = mid := by omega
            have D6 := F.half1' HM.out (Or.inr j11)
            rw [rot_none' f s e (by omega)] at D6
            have HJ2 : Hid (s = mid) := j11
            clear j11
            go_wp2
            go_end0
            have D := F.whole' (f2 := f) (f3 := f) HM.out (by rw [rot_none' f s e (by omega)]; exact Stb.refl _ _ _) D6 (Stb.refl _ _ _) D5
            exact ⟨rfl, ⟨f, hr, D.1, D.2⟩, hgr⟩

/-- SYMMERGE: two runs in order, one behind the other, become one, those of one id in the order in which they stood. -/
theorem merge_any (g N c : Nat) (hN : N ≤ 1048576) : ∀ n, MergesBelow g N c n := by
  intro n
  induction n with
  | zero => intro a m b f w h; omega
  | succ n ih =>
    intro a m b f w h ho ham hmb hb hs1 hs2
    by_cases c1 : m = a + 1
    · subst c1; exact merge_one_left g N c a b f w hN ho hmb hb hs2
    · by_cases c2 : b = m + 1
      · subst c2; exact merge_one_right g N c a m f w hN ho (by omega) hb hs1
      · refine merge_general g N c a m b f w (fun a' m' b' f' w' h' => ih a' m' b' f' w' (by omega)) hN ho (by omega) (by omega) hb hs1 hs2
end Go.Proofs.Qxb6613060aDoor
