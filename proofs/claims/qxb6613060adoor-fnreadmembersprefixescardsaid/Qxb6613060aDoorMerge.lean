/-
  SEAT b6613060aD: THE PLAIN LAW OF symMerge: no Go in sight.
-/
import Derived.Test.Qxb6613060aDoorPlain
namespace Go.Proofs.Qxb6613060aDoor
set_option linter.unusedVariables false

/-- What the search has found: of the left run (a to m) the elements from s on stand strictly behind those of the right run (m to b) ahead of e; the others of the left run do not stand behind those of the right run from e on. -/
structure Found (f : Nat → Srv) (a s m e b : Nat) : Prop where
  h1 : a ≤ s
  h2 : s ≤ m
  h3 : m ≤ e
  h4 : e ≤ b
  left : SortedOn f a m
  right : SortedOn f m b
  high : ∀ i j, s ≤ i → i < m → m ≤ j → j < e → lt (f j) (f i)
  low : ∀ i j, a ≤ i → i < s → e ≤ j → j < b → le (f i) (f j)

namespace Found
variable {f : Nat → Srv} {a s m e b : Nat}

theorem run1 (F : Found f a s m e b) : SortedOn (rot f s m e) a s :=
  (F.left.sub (Nat.le_refl _) F.h2).congr fun i _ h => rot_out F.h2 F.h3 (Or.inl h)

theorem run2 (F : Found f a s m e b) : SortedOn (rot f s m e) s (s + (e - m)) := fun i j h1 h2 h3 => by
  have := F.h2; have := F.h3; have := F.h4
  rw [rot_lo h1 (by omega), rot_lo (by omega) h3]
  exact F.right _ _ (by omega) (by omega) (by omega)

theorem run3 (F : Found f a s m e b) : SortedOn (rot f s m e) (s + (e - m)) e := fun i j h1 h2 h3 => by
  have := F.h1; have := F.h2; have := F.h3
  rw [rot_hi h1 (by omega), rot_hi (by omega) h3]
  exact F.left _ _ (by omega) (by omega) (by omega)

theorem run4 (F : Found f a s m e b) : SortedOn (rot f s m e) e b :=
  (F.right.sub F.h3 (Nat.le_refl _)).congr fun i h _ => rot_out F.h2 F.h3 (Or.inr h)

theorem cross (F : Found f a s m e b) : ∀ i j, a ≤ i → i < s + (e - m) → s + (e - m) ≤ j → j < b → le (rot f s m e i) (rot f s m e j) := by
  intro i j h1 h2 h3 h4
  have g1 := F.h1; have g2 := F.h2; have g3 := F.h3; have g4 := F.h4
  by_cases ci : i < s
  · rw [rot_out g2 g3 (Or.inl ci)]
    by_cases cj : j < e
    · rw [rot_hi h3 cj]; exact F.left _ _ h1 (by omega) (by omega)
    · rw [rot_out g2 g3 (Or.inr (by omega))]; exact F.low i j h1 ci (by omega) h4
  · rw [rot_lo (by omega) h2]
    by_cases cj : j < e
    · rw [rot_hi h3 cj]; exact lt_le (F.high _ _ (by omega) (by omega) (by omega) (by omega))
    · rw [rot_out g2 g3 (Or.inr (by omega))]; exact F.right _ _ (by omega) (by omega) h4

theorem stb (F : Found f a s m e b) : Stb f (rot f s m e) a b :=
  (Stb_rot F.h2 F.h3 fun i j k1 k2 k3 k4 => (ne_of_lt (F.high i j k1 k2 k3 k4)).symm).widen F.h1 (Nat.le_trans F.h2 F.h3) F.h4

/-- the first half is one run where symMerge is not called on it -/
theorem half1 (F : Found f a s m e b) (h : a = s ∨ s = s + (e - m)) : SortedOn (rot f s m e) a (s + (e - m)) := by
  rcases h with h | h
  · rw [h]; exact F.run2
  · rw [← h]; exact F.run1

theorem half2 (F : Found f a s m e b) (h : s + (e - m) = e ∨ e = b) : SortedOn (rot f s m e) (s + (e - m)) b := by
  rcases h with h | h
  · rw [h]; exact F.run4
  · have := F.run3; rw [h] at this ⊢; exact this

/-- both halves in order: the whole -/
theorem whole (F : Found f a s m e b) {f2 f3 : Nat → Srv} (s1 : Stb (rot f s m e) f2 a (s + (e - m))) (o1 : SortedOn f2 a (s + (e - m))) (s2 : Stb f2 f3 (s + (e - m)) b) (o2 : SortedOn f3 (s + (e - m)) b) :
    Stb f f3 a b ∧ SortedOn f3 a b := by
  have g1 := F.h1; have g2 := F.h2; have g3 := F.h3; have g4 := F.h4
  refine ⟨F.stb.trans ((s1.widen (Nat.le_refl _) (by omega) (by omega)).trans (s2.widen (by omega) (by omega) (Nat.le_refl _))), fun i j h1 h2 h3 => ?_⟩
  by_cases ci : i < s + (e - m)
  · by_cases cj : j < s + (e - m)
    · rw [s2.1 i (Or.inl ci), s2.1 j (Or.inl cj)]; exact o1 i j h1 h2 cj
    · obtain ⟨i', a1, a2, e1⟩ := s1.mem h1 ci
      obtain ⟨j', b1, b2, e2⟩ := s2.mem (by omega) h3
      rw [s2.1 i (Or.inl ci), e1, e2, s1.1 j' (Or.inr b1)]
      exact F.cross i' j' a1 a2 b1 b2
  · exact o2 i j (by omega) h2 h3
end Found

/-- the left run has one element -/
theorem found_one_left {f : Nat → Srv} {a i b : Nat} (h1 : a + 1 ≤ i) (h2 : i ≤ b) (right : SortedOn f (a + 1) b) (hl : ∀ h, a + 1 ≤ h → h < i → lt (f h) (f a)) : Found f a a (a + 1) i b :=
  ⟨Nat.le_refl _, by omega, h1, h2, fun p q k1 k2 k3 => by omega, right, fun p q k1 k2 k3 k4 => by
    have e : p = a := by omega
    subst e; exact hl q k3 k4, fun p q k1 k2 => by omega⟩

theorem done_one_left {f : Nat → Srv} {a i b : Nat} (h1 : a + 1 ≤ i) (h2 : i ≤ b) (right : SortedOn f (a + 1) b) (hl : ∀ h, a + 1 ≤ h → h < i → lt (f h) (f a)) (hr : ∀ h, i ≤ h → h < b → ¬ lt (f h) (f a)) :
    Stb f (rot f a (a + 1) i) a b ∧ SortedOn (rot f a (a + 1) i) a b := by
  have F := found_one_left h1 h2 right hl
  refine F.whole (Stb.refl _ _ _) (F.half1 (Or.inl rfl)) (Stb.refl _ _ _) ?_
  intro p q k1 k2 k3
  by_cases cq : q < i
  · omega
  · by_cases cp : p < i
    · have e : p = a + (i - (a + 1)) := by omega
      rw [rot_hi (by omega) cp, rot_out (by omega) h1 (Or.inr (by omega)), show p - (i - (a + 1)) = a by omega]
      exact hr q (by omega) k3
    · rw [rot_out (by omega) h1 (Or.inr (by omega)), rot_out (by omega) h1 (Or.inr (by omega))]
      exact right p q (by omega) k2 k3

/-- the right run has one element -/
theorem done_one_right {f : Nat → Srv} {a i m : Nat} (h1 : a ≤ i) (h2 : i ≤ m) (left : SortedOn f a m) (hl : ∀ h, a ≤ h → h < i → ¬ lt (f m) (f h)) (hr : ∀ h, i ≤ h → h < m → lt (f m) (f h)) :
    Stb f (rot f i m (m + 1)) a (m + 1) ∧ SortedOn (rot f i m (m + 1)) a (m + 1) := by
  have F : Found f a i m (m + 1) (m + 1) := ⟨h1, h2, by omega, Nat.le_refl _, left, fun p q k1 k2 k3 => by omega, fun p q k1 k2 k3 k4 => by
    have e : q = m := by omega
    subst e; exact hr p k1 k2, fun p q k1 k2 k3 k4 => by omega⟩
  refine F.whole (Stb.refl _ _ _) ?_ (Stb.refl _ _ _) (F.half2 (Or.inr rfl))
  intro p q k1 k2 k3
  by_cases cq : q < i
  · rw [rot_out h2 (by omega) (Or.inl (by omega)), rot_out h2 (by omega) (Or.inl cq)]; exact left p q k1 k2 (by omega)
  · have e : q = i := by omega
    subst e
    rw [rot_out h2 (by omega) (Or.inl (by omega)), rot_lo (by omega) (by omega), show q + (m - q) = m by omega]
    exact hl p k1 k2

theorem rot_left_next (f : Nat → Srv) (a k : Nat) (h : a ≤ k) : rot (rot f a (a + 1) (k + 1)) k (k + 1) (k + 2) = rot f a (a + 1) (k + 2) := by
  funext i
  by_cases e1 : i = k
  · subst e1
    rw [rot1_at, rot_out (by omega) (by omega) (Or.inr (by omega)), rot_lo h (by omega)]; congr 1; omega
  · by_cases e2 : i = k + 1
    · subst e2
      rw [rot1_next, rot_hi (by omega) (by omega), rot_hi (by omega) (by omega)]; congr 1; omega
    · rw [rot1_off e1 e2]
      by_cases c1 : a ≤ i ∧ i < k
      · rw [rot_lo c1.1 (by omega), rot_lo c1.1 (by omega)]
      · rw [rot_out (by omega) (by omega) (by omega), rot_out (by omega) (by omega) (by omega)]

theorem rot_right_next (f : Nat → Srv) (k m : Nat) (h : k + 1 ≤ m) : rot (rot f (k + 1) m (m + 1)) k (k + 1) (k + 2) = rot f k m (m + 1) := by
  funext i
  by_cases e1 : i = k
  · subst e1
    rw [rot1_at, rot_lo (Nat.le_refl _) (by omega), rot_lo (Nat.le_refl _) (by omega)]; congr 1; omega
  · by_cases e2 : i = k + 1
    · subst e2
      rw [rot1_next, rot_out (by omega) (by omega) (Or.inl (by omega)), rot_hi (by omega) (by omega)]; congr 1; omega
    · rw [rot1_off e1 e2]
      by_cases c1 : k + 1 < i ∧ i < m + 1
      · rw [rot_hi (by omega) c1.2, rot_hi (by omega) c1.2]
      · rw [rot_out (by omega) (by omega) (by omega), rot_out (by omega) (by omega) (by omega)]

/-- What the binary search of the general case leaves, from lo to hi. -/
theorem found_of_search {f : Nat → Srv} {a m b mid s lo hi : Nat} (left : SortedOn f a m) (right : SortedOn f m b) (ham : a < m) (hmb : m < b) (hmid : mid = (a + b) / 2)
    (hlo : lo = if mid < m then mid + m - b else a) (hhi : hi = if mid < m then mid else m) (hs1 : lo ≤ s) (hs2 : s ≤ hi)
    (hl : ∀ c, lo ≤ c → c < s → ¬ lt (f (mid + m - 1 - c)) (f c)) (hr : ∀ c, s ≤ c → c < hi → lt (f (mid + m - 1 - c)) (f c)) : Found f a s m (mid + m - s) b := by
  by_cases hc : mid < m
  · rw [if_pos hc] at hlo hhi
    refine ⟨by omega, by omega, by omega, by omega, left, right, fun i j h1 h2 h3 h4 => ?_, fun i j h1 h2 h3 h4 => ?_⟩
    · have k := hr s (Nat.le_refl _) (by omega)
      exact lt_of_le_of_lt (right.le h3 (by omega) (by omega)) (lt_of_lt_of_le k (left.le (by omega) h1 h2))
    · by_cases h5 : lo < s
      · have k := hl (s - 1) (by omega) (by omega)
        rw [show mid + m - 1 - (s - 1) = mid + m - s by omega] at k
        exact le_trans (left.le h1 (by omega) (by omega)) (le_trans k (right.le (by omega) h3 h4))
      · omega
  · rw [if_neg hc] at hlo hhi
    refine ⟨by omega, by omega, by omega, by omega, left, right, fun i j h1 h2 h3 h4 => ?_, fun i j h1 h2 h3 h4 => ?_⟩
    · have k := hr s (Nat.le_refl _) (by omega)
      exact lt_of_le_of_lt (right.le h3 (by omega) (by omega)) (lt_of_lt_of_le k (left.le (by omega) h1 h2))
    · have k := hl (s - 1) (by omega) (by omega)
      rw [show mid + m - 1 - (s - 1) = mid + m - s by omega] at k
      exact le_trans (left.le h1 (by omega) (by omega)) (le_trans k (right.le (by omega) h3 h4))

/-- where the search looks -/
theorem search_in {a m b mid lo hi c : Nat} (ham : a < m) (hmb : m < b) (hmid : mid = (a + b) / 2) (hlo : lo = if mid < m then mid + m - b else a) (hhi : hi = if mid < m then mid else m) (h1 : lo ≤ c) (h2 : c < hi) :
    a ≤ c ∧ c < m ∧ m ≤ mid + m - 1 - c ∧ mid + m - 1 - c < b := by
  by_cases hc : mid < m
  · rw [if_pos hc] at hlo hhi; omega
  · rw [if_neg hc] at hlo hhi; omega

theorem search_ends {a m b mid lo hi : Nat} (ham : a < m) (hmb : m < b) (hmid : mid = (a + b) / 2) (hlo : lo = if mid < m then mid + m - b else a) (hhi : hi = if mid < m then mid else m) :
    lo ≤ hi ∧ a ≤ lo ∧ hi ≤ m ∧ hi ≤ mid ∧ mid + m - lo ≤ b ∧ a ≤ mid ∧ mid < b := by
  by_cases hc : mid < m
  · rw [if_pos hc] at hlo hhi; omega
  · rw [if_neg hc] at hlo hhi; omega

/-- the search goes right -/
theorem search_right {f : Nat → Srv} {a m b mid lo hi s c : Nat} (left : SortedOn f a m) (right : SortedOn f m b) (ham : a < m) (hmb : m < b) (hmid : mid = (a + b) / 2) (hlo : lo = if mid < m then mid + m - b else a) (hhi : hi = if mid < m then mid else m)
    (h2 : c < hi) (hn : ¬ lt (f (mid + m - 1 - c)) (f c)) : ∀ t, lo ≤ t → t < c + 1 → ¬ lt (f (mid + m - 1 - t)) (f t) := by
  intro t t1 t2 ht
  have i1 := search_in ham hmb hmid hlo hhi (c := t) t1 (by omega)
  have i2 := search_in ham hmb hmid hlo hhi (c := c) (by omega) h2
  exact hn (lt_of_le_of_lt (right.le i2.2.2.1 (by omega) i1.2.2.2) (lt_of_lt_of_le ht (left.le i1.1 (by omega) i2.2.1)))

/-- the search goes left -/
theorem search_left {f : Nat → Srv} {a m b mid lo hi s c : Nat} (left : SortedOn f a m) (right : SortedOn f m b) (ham : a < m) (hmb : m < b) (hmid : mid = (a + b) / 2) (hlo : lo = if mid < m then mid + m - b else a) (hhi : hi = if mid < m then mid else m)
    (h1 : lo ≤ c) (hn : lt (f (mid + m - 1 - c)) (f c)) : ∀ t, c ≤ t → t < hi → lt (f (mid + m - 1 - t)) (f t) := by
  intro t t1 t2
  have i1 := search_in ham hmb hmid hlo hhi (c := t) (by omega) t2
  have i2 := search_in ham hmb hmid hlo hhi (c := c) h1 (by omega)
  exact lt_of_le_of_lt (right.le i1.2.2.1 (by omega) i2.2.2.2) (lt_of_lt_of_le hn (left.le i2.1 t1 i1.2.1))

section
variable {f f2 f3 : Nat → Srv} {a s m e b mid : Nat}
theorem Found.whole' (F : Found f a s m e b) (hm : s + (e - m) = mid) (s1 : Stb (rot f s m e) f2 a mid) (o1 : SortedOn f2 a mid) (s2 : Stb f2 f3 mid b) (o2 : SortedOn f3 mid b) : Stb f f3 a b ∧ SortedOn f3 a b := by
  subst hm; exact F.whole s1 o1 s2 o2
theorem Found.run2' (F : Found f a s m e b) (hm : s + (e - m) = mid) : SortedOn (rot f s m e) s mid := by subst hm; exact F.run2
theorem Found.run3' (F : Found f a s m e b) (hm : s + (e - m) = mid) : SortedOn (rot f s m e) mid e := by subst hm; exact F.run3
theorem Found.half1' (F : Found f a s m e b) (hm : s + (e - m) = mid) (h : a = s ∨ s = mid) : SortedOn (rot f s m e) a mid := by subst hm; exact F.half1 h
theorem Found.half2' (F : Found f a s m e b) (hm : s + (e - m) = mid) (h : mid = e ∨ e = b) : SortedOn (rot f s m e) mid b := by subst hm; exact F.half2 h
/-- what lies from mid on is as it was -/
theorem Stb.upper (h : Stb f f2 a mid) {x y : Nat} (hx : mid ≤ x) (o : SortedOn f x y) : SortedOn f2 x y := o.congr fun i h1 _ => h.1 i (Or.inr (by omega))
end
end Go.Proofs.Qxb6613060aDoor
