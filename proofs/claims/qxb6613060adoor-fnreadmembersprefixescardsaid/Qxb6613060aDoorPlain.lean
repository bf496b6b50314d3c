/-
  SEAT b6613060aD: THE PLAIN LAW OF THE STABLE SORT: no Go in sight. Servers, the order of byte strings, segments, rotations, stability.
-/
import Derived.Lib.Bytealg
namespace Go.Proofs.Qxb6613060aDoor

structure Srv where
  id : ByteArray
  addr : ByteArray
  api : ByteArray
  non : Bool

def Srv.zero : Srv := ⟨ByteArray.empty, ByteArray.empty, ByteArray.empty, false⟩

def Srv.key (x : Srv) : List UInt8 := x.id.data.toList

/-! ### The order of byte strings -/
theorem cmp_self : ∀ a : List UInt8, Lib.compareBytes a a = 0
  | [] => rfl
  | a :: as => by unfold Lib.compareBytes; rw [if_neg (UInt8.lt_irrefl a), if_neg (UInt8.lt_irrefl a)]; exact cmp_self as

theorem cmp_swap : ∀ a b : List UInt8, Lib.compareBytes b a = - Lib.compareBytes a b
  | [], [] => rfl
  | [], _ :: _ => rfl
  | _ :: _, [] => rfl
  | a :: as, b :: bs => by
    unfold Lib.compareBytes
    by_cases h : a < b
    · have k : ¬ b < a := fun k => UInt8.lt_irrefl a (UInt8.lt_trans h k)
      simp only [h, k, if_true, if_false]
      rfl
    · by_cases k : b < a
      · simp only [h, k, if_true, if_false]
      · simp only [h, k, if_false]
        exact cmp_swap as bs

theorem cmp_eq : ∀ a b : List UInt8, Lib.compareBytes a b = 0 → a = b
  | [], [], _ => rfl
  | [], _ :: _, h => by simp [Lib.compareBytes] at h
  | _ :: _, [], h => by simp [Lib.compareBytes] at h
  | a :: as, b :: bs, h => by
    unfold Lib.compareBytes at h
    by_cases h1 : a < b
    · rw [if_pos h1] at h; omega
    · rw [if_neg h1] at h
      by_cases h2 : b < a
      · rw [if_pos h2] at h; omega
      · rw [if_neg h2] at h
        rw [cmp_eq as bs h]
        have e : a = b := UInt8.le_antisymm (UInt8.not_lt.1 h2) (UInt8.not_lt.1 h1)
        rw [e]

theorem cmp_trans : ∀ a b c : List UInt8, Lib.compareBytes a b < 0 → Lib.compareBytes b c < 0 → Lib.compareBytes a c < 0
  | [], [], _, h, _ => by simp [Lib.compareBytes] at h
  | [], _ :: _, [], _, h => by simp [Lib.compareBytes] at h
  | [], _ :: _, _ :: _, _, _ => by simp [Lib.compareBytes]
  | _ :: _, [], _, h, _ => by simp [Lib.compareBytes] at h
  | _ :: _, _ :: _, [], _, h => by simp [Lib.compareBytes] at h
  | a :: as, b :: bs, c :: cs, h, k => by
    unfold Lib.compareBytes at h k ⊢
    by_cases h1 : a < b
    · by_cases k1 : b < c
      · rw [if_pos (UInt8.lt_trans h1 k1)]; decide
      · rw [if_neg k1] at k
        by_cases k2 : c < b
        · rw [if_pos k2] at k; omega
        · have e : b = c := UInt8.le_antisymm (UInt8.not_lt.1 k2) (UInt8.not_lt.1 k1)
          subst e; rw [if_pos h1]; decide
    · rw [if_neg h1] at h
      by_cases h2 : b < a
      · rw [if_pos h2] at h; omega
      · rw [if_neg h2] at h
        have e : a = b := UInt8.le_antisymm (UInt8.not_lt.1 h2) (UInt8.not_lt.1 h1)
        subst e
        by_cases k1 : a < c
        · rw [if_pos k1]; decide
        · rw [if_neg k1] at k ⊢
          by_cases k2 : c < a
          · rw [if_pos k2] at k; omega
          · rw [if_neg k2] at k ⊢
            exact cmp_trans as bs cs h k

/-- x stands strictly before y -/
def lt (x y : Srv) : Prop := Lib.compareBytes x.key y.key < 0
/-- y does not stand strictly before x -/
def le (x y : Srv) : Prop := ¬ lt y x

theorem lt_irrefl (x : Srv) : ¬ lt x x := by unfold lt; rw [cmp_self]; omega
theorem lt_trans {x y z : Srv} (h : lt x y) (k : lt y z) : lt x z := cmp_trans _ _ _ h k
theorem lt_le {x y : Srv} (h : lt x y) : le x y := fun k => lt_irrefl _ (lt_trans h k)
theorem le_refl (x : Srv) : le x x := lt_irrefl x
theorem lt_of_ne {x y : Srv} (h : le x y) (hne : x.key ≠ y.key) : lt x y := by
  unfold le lt at *
  have hs := cmp_swap x.key y.key
  have : Lib.compareBytes x.key y.key ≠ 0 := fun e => hne (cmp_eq _ _ e)
  omega
theorem le_of_key {x y : Srv} (h : x.key = y.key) : le x y := by unfold le lt; rw [h, cmp_self]; omega
theorem lt_key {x y x' y' : Srv} (h : lt x y) (hx : x.key = x'.key) (hy : y.key = y'.key) : lt x' y' := by unfold lt at *; rw [← hx, ← hy]; exact h
theorem le_trans {x y z : Srv} (h : le x y) (k : le y z) : le x z := by
  by_cases e1 : x.key = y.key
  · intro hz; exact k (lt_key hz rfl e1)
  · by_cases e2 : y.key = z.key
    · intro hz; exact h (lt_key hz e2.symm rfl)
    · exact lt_le (lt_trans (lt_of_ne h e1) (lt_of_ne k e2))
theorem lt_of_lt_of_le {x y z : Srv} (h : lt x y) (k : le y z) : lt x z := by
  by_cases e2 : y.key = z.key
  · exact lt_key h rfl e2
  · exact lt_trans h (lt_of_ne k e2)
theorem lt_of_le_of_lt {x y z : Srv} (h : le x y) (k : lt y z) : lt x z := by
  by_cases e2 : x.key = y.key
  · exact lt_key k e2.symm rfl
  · exact lt_trans (lt_of_ne h e2) k
theorem ne_of_lt {x y : Srv} (h : lt x y) : x.key ≠ y.key := fun e => by unfold lt at h; rw [e, cmp_self] at h; omega
theorem le_antisymm {x y : Srv} (h : le x y) (k : le y x) : x.key = y.key := by
  apply Classical.byContradiction
  intro hne
  exact k (lt_of_ne h hne)

/-! ### Segments -/
def seg (f : Nat → Srv) (a b : Nat) : List Srv := (List.range' a (b - a)).map f

theorem seg_append (f : Nat → Srv) {a m b : Nat} (h1 : a ≤ m) (h2 : m ≤ b) : seg f a b = seg f a m ++ seg f m b := by
  unfold seg
  rw [← List.map_append]
  congr 1
  have := @List.range'_append_1 a (m - a) (b - m)
  rw [show a + (m - a) = m by omega, show m - a + (b - m) = b - a by omega] at this
  exact this.symm

theorem seg_congr {f f' : Nat → Srv} {a b : Nat} (h : ∀ i, a ≤ i → i < b → f i = f' i) : seg f a b = seg f' a b := by
  unfold seg
  apply List.map_congr_left
  intro i hi
  rw [List.mem_range'_1] at hi
  exact h i hi.1 (by omega)

theorem seg_shift {f f' : Nat → Srv} {a b d : Nat} (h : ∀ i, a ≤ i → i < b → f' (i + d) = f i) : seg f' (a + d) (b + d) = seg f a b := by
  unfold seg
  rw [show b + d - (a + d) = b - a by omega]
  apply List.ext_getElem
  · simp
  · intro n h1 h2
    simp at h1 h2 ⊢
    rw [show a + d + n = (a + n) + d by omega]
    exact h (a + n) (by omega) (by omega)

theorem seg_nil (f : Nat → Srv) {a b : Nat} (h : b ≤ a) : seg f a b = [] := by unfold seg; rw [show b - a = 0 by omega]; rfl

theorem mem_seg {f : Nat → Srv} {a b : Nat} {x : Srv} : x ∈ seg f a b ↔ ∃ i, a ≤ i ∧ i < b ∧ f i = x := by
  unfold seg
  rw [List.mem_map]
  constructor
  · rintro ⟨i, hi, rfl⟩
    rw [List.mem_range'_1] at hi
    exact ⟨i, hi.1, by omega, rfl⟩
  · rintro ⟨i, h1, h2, rfl⟩
    exact ⟨i, by rw [List.mem_range'_1]; omega, rfl⟩

theorem seg_length (f : Nat → Srv) (a b : Nat) : (seg f a b).length = b - a := by unfold seg; simp

/-- those of a list with the id k -/
def only (k : List UInt8) (l : List Srv) : List Srv := l.filter fun x => decide (x.key = k)

theorem only_append (k : List UInt8) (l l' : List Srv) : only k (l ++ l') = only k l ++ only k l' := List.filter_append ..

theorem only_none (k : List UInt8) (l : List Srv) (h : ∀ x ∈ l, x.key ≠ k) : only k l = [] := by
  unfold only
  rw [List.filter_eq_nil_iff]
  intro x hx
  simpa using h x hx

/-- f' is f with the elements from a to b in another order, those of one id in the same order among themselves. -/
def Stb (f f' : Nat → Srv) (a b : Nat) : Prop := (∀ i, (i < a ∨ b ≤ i) → f' i = f i) ∧ ∀ k, only k (seg f' a b) = only k (seg f a b)

theorem Stb.refl (f : Nat → Srv) (a b : Nat) : Stb f f a b := ⟨fun _ _ => rfl, fun _ => rfl⟩

theorem Stb.trans {f f' f'' : Nat → Srv} {a b : Nat} (h : Stb f f' a b) (k : Stb f' f'' a b) : Stb f f'' a b :=
  ⟨fun i hi => (k.1 i hi).trans (h.1 i hi), fun c => (k.2 c).trans (h.2 c)⟩

theorem Stb.widen {f f' : Nat → Srv} {a b a' b' : Nat} (h : Stb f f' a b) (h1 : a' ≤ a) (h2 : a ≤ b) (h3 : b ≤ b') : Stb f f' a' b' := by
  refine ⟨fun i hi => h.1 i (by omega), fun k => ?_⟩
  rw [seg_append f' h1 (by omega : a ≤ b'), seg_append f' h2 h3, seg_append f h1 (by omega : a ≤ b'), seg_append f h2 h3]
  simp only [only_append]
  rw [h.2 k, seg_congr (f := f') (f' := f) (a := a') (b := a) (fun i _ hi => h.1 i (Or.inl hi)), seg_congr (f := f') (f' := f) (a := b) (b := b') (fun i hi _ => h.1 i (Or.inr hi))]

theorem Stb.mem {f f' : Nat → Srv} {a b i : Nat} (h : Stb f f' a b) (h1 : a ≤ i) (h2 : i < b) : ∃ j, a ≤ j ∧ j < b ∧ f' i = f j := by
  have hm : f' i ∈ only (f' i).key (seg f' a b) := by
    unfold only
    rw [List.mem_filter]
    exact ⟨mem_seg.2 ⟨i, h1, h2, rfl⟩, by simp⟩
  rw [h.2] at hm
  unfold only at hm
  rw [List.mem_filter] at hm
  obtain ⟨j, j1, j2, e⟩ := mem_seg.1 hm.1
  exact ⟨j, j1, j2, e.symm⟩

/-! ### Rotations and exchanges -/
/-- the elements from m to b ahead of those from a to m -/
def rot (f : Nat → Srv) (a m b : Nat) : Nat → Srv := fun i => if a ≤ i ∧ i < a + (b - m) then f (i + (m - a)) else if a + (b - m) ≤ i ∧ i < b then f (i - (b - m)) else f i

/-- n elements from a on change places with n elements from b on -/
def swp (f : Nat → Srv) (a b n : Nat) : Nat → Srv := fun i => if a ≤ i ∧ i < a + n then f (i - a + b) else if b ≤ i ∧ i < b + n then f (i - b + a) else f i

def upd (f : Nat → Srv) (i : Nat) (x : Srv) : Nat → Srv := fun j => if j = i then x else f j

theorem rot_lo {f : Nat → Srv} {a m b i : Nat} (h1 : a ≤ i) (h2 : i < a + (b - m)) : rot f a m b i = f (i + (m - a)) := by
  unfold rot; rw [if_pos ⟨h1, h2⟩]
theorem rot_hi {f : Nat → Srv} {a m b i : Nat} (h1 : a + (b - m) ≤ i) (h2 : i < b) : rot f a m b i = f (i - (b - m)) := by
  unfold rot; rw [if_neg (by omega), if_pos ⟨h1, h2⟩]
theorem rot_out {f : Nat → Srv} {a m b i : Nat} (hm : a ≤ m) (hb : m ≤ b) (h : i < a ∨ b ≤ i) : rot f a m b i = f i := by
  unfold rot; rw [if_neg (by omega), if_neg (by omega)]

theorem seg_rot (f : Nat → Srv) {a m b : Nat} (h1 : a ≤ m) (h2 : m ≤ b) : seg (rot f a m b) a b = seg f m b ++ seg f a m := by
  rw [seg_append (rot f a m b) (show a ≤ a + (b - m) by omega) (by omega)]
  have e1 : seg (rot f a m b) a (a + (b - m)) = seg f m b := by
    have := seg_shift (f := rot f a m b) (f' := f) (a := a) (b := a + (b - m)) (d := m - a) (fun i hi hb => by rw [rot_lo hi hb])
    rw [show a + (m - a) = m by omega, show a + (b - m) + (m - a) = b by omega] at this
    exact this.symm
  have e2 : seg (rot f a m b) (a + (b - m)) b = seg f a m := by
    have := seg_shift (f := f) (f' := rot f a m b) (a := a) (b := m) (d := b - m) (fun i hi hb => by
      rw [rot_hi (by omega) (by omega)]; congr 1; omega)
    rw [show m + (b - m) = b by omega] at this
    exact this
  rw [e1, e2]

theorem Stb_rot {f : Nat → Srv} {a m b : Nat} (h1 : a ≤ m) (h2 : m ≤ b) (hne : ∀ i j, a ≤ i → i < m → m ≤ j → j < b → (f i).key ≠ (f j).key) : Stb f (rot f a m b) a b := by
  refine ⟨fun i hi => rot_out h1 h2 hi, fun k => ?_⟩
  rw [seg_rot f h1 h2, seg_append f h1 h2, only_append, only_append]
  by_cases hk : ∃ i, a ≤ i ∧ i < m ∧ (f i).key = k
  · obtain ⟨i, i1, i2, e⟩ := hk
    rw [only_none k (seg f m b) (fun x hx e' => by
      obtain ⟨j, j1, j2, rfl⟩ := mem_seg.1 hx
      exact hne i j i1 i2 j1 j2 (e.trans e'.symm))]
    simp
  · rw [only_none k (seg f a m) (fun x hx e' => by
      obtain ⟨j, j1, j2, rfl⟩ := mem_seg.1 hx
      exact hk ⟨j, j1, j2, e'⟩)]
    simp

theorem rot_none (f : Nat → Srv) (a m : Nat) : rot f a m m = f := by
  funext i; unfold rot
  by_cases h1 : a + (m - m) ≤ i ∧ i < m
  · rw [if_neg (by omega), if_pos h1]; congr 1; omega
  · rw [if_neg (by omega), if_neg h1]

theorem rot_none' (f : Nat → Srv) (m b : Nat) (h : m ≤ b) : rot f m m b = f := by
  funext i; unfold rot
  by_cases h1 : m ≤ i ∧ i < m + (b - m)
  · rw [if_pos h1]; congr 1; omega
  · rw [if_neg h1, if_neg (by omega)]

/-- the longer block left: its head has come to its place -/
theorem rot_step1 (f : Nat → Srv) (m i j : Nat) (hi : i ≤ m) (hij : j < i) : rot (swp f (m - i) m j) (m - i + j) m (m + j) = rot f (m - i) m (m + j) := by
  funext t
  unfold rot swp
  by_cases c1 : m - i ≤ t ∧ t < m - i + (m + j - m)
  · rw [if_neg (by omega), if_neg (by omega), if_pos (by omega), if_pos c1]; congr 1; omega
  · rw [if_neg c1]
    by_cases c2 : m - i + (m + j - m) ≤ t ∧ t < m + j
    · rw [if_pos c2]
      by_cases c3 : t < m - i + j + (m + j - m)
      · rw [if_pos ⟨by omega, c3⟩]
        rw [if_neg (by omega), if_pos (by omega)]; congr 1; omega
      · rw [if_neg (by omega), if_pos (by omega), if_neg (by omega), if_neg (by omega)]
    · rw [if_neg c2, if_neg (by omega), if_neg (by omega), if_neg (by omega), if_neg (by omega)]

/-- the longer block right: its tail has come to its place -/
theorem rot_step2 (f : Nat → Srv) (m i j : Nat) (hi : i ≤ m) (hij : i < j) : rot (swp f (m - i) (m + j - i) i) (m - i) m (m + j - i) = rot f (m - i) m (m + j) := by
  funext t
  unfold rot swp
  by_cases c1 : m - i ≤ t ∧ t < m - i + (m + j - m)
  · rw [if_pos c1]
    by_cases c2 : t < m - i + (m + j - i - m)
    · rw [if_pos ⟨c1.1, c2⟩, if_neg (by omega)]
      by_cases c3 : m + j - i ≤ t + (m - (m - i))
      · omega
      · rw [if_neg (by omega)]
    · rw [if_neg (by omega), if_pos (by omega), if_pos (by omega)]; congr 1; omega
  · rw [if_neg c1]
    by_cases c2 : m - i + (m + j - m) ≤ t ∧ t < m + j
    · rw [if_pos c2, if_neg (by omega), if_neg (by omega), if_neg (by omega), if_pos (by omega)]; congr 1; omega
    · rw [if_neg c2, if_neg (by omega), if_neg (by omega), if_neg (by omega), if_neg (by omega)]

/-- both blocks of one length -/
theorem rot_last (f : Nat → Srv) (m i : Nat) (hi : i ≤ m) : swp f (m - i) m i = rot f (m - i) m (m + i) := by
  funext t
  unfold rot swp
  by_cases c1 : m - i ≤ t ∧ t < m - i + i
  · rw [if_pos c1, if_pos (by omega)]; congr 1; omega
  · rw [if_neg c1]
    by_cases c2 : m ≤ t ∧ t < m + i
    · rw [if_pos c2, if_neg (by omega), if_pos (by omega)]; congr 1; omega
    · rw [if_neg c2, if_neg (by omega), if_neg (by omega)]

/-! ### Sorted segments; insertion -/
def SortedOn (f : Nat → Srv) (a b : Nat) : Prop := ∀ i j, a ≤ i → i < j → j < b → le (f i) (f j)

theorem SortedOn.congr {f f' : Nat → Srv} {a b : Nat} (h : SortedOn f a b) (e : ∀ i, a ≤ i → i < b → f' i = f i) : SortedOn f' a b :=
  fun i j h1 h2 h3 => by rw [e i h1 (by omega), e j (by omega) h3]; exact h i j h1 h2 h3

theorem SortedOn.sub {f : Nat → Srv} {a b a' b' : Nat} (h : SortedOn f a b) (h1 : a ≤ a') (h2 : b' ≤ b) : SortedOn f a' b' :=
  fun i j k1 k2 k3 => h i j (by omega) k2 (by omega)

theorem SortedOn.le {f : Nat → Srv} {a b i j : Nat} (h : SortedOn f a b) (h1 : a ≤ i) (h2 : i ≤ j) (h3 : j < b) : le (f i) (f j) := by
  by_cases e : i = j
  · subst e; exact le_refl _
  · exact h i j h1 (by omega) h3

/-- The elements from a to i are in order but for the one at j, which stands strictly before all behind it. -/
def Ins (f : Nat → Srv) (a j i : Nat) : Prop :=
  (∀ p q, a ≤ p → p < q → q ≤ i → p ≠ j → q ≠ j → le (f p) (f q)) ∧ ∀ q, j < q → q ≤ i → lt (f j) (f q)

theorem Ins.start {f : Nat → Srv} {a i : Nat} (h : SortedOn f a i) : Ins f a i i :=
  ⟨fun p q h1 h2 h3 _ h5 => h p q h1 h2 (by omega), fun q h1 h2 => by omega⟩

theorem rot1_at {f : Nat → Srv} {y : Nat} : rot f y (y + 1) (y + 2) y = f (y + 1) := by rw [rot_lo (by omega) (by omega)]; congr 1; omega
theorem rot1_next {f : Nat → Srv} {y : Nat} : rot f y (y + 1) (y + 2) (y + 1) = f y := by rw [rot_hi (by omega) (by omega)]; congr 1; omega
theorem rot1_off {f : Nat → Srv} {y i : Nat} (h1 : i ≠ y) (h2 : i ≠ y + 1) : rot f y (y + 1) (y + 2) i = f i := rot_out (by omega) (by omega) (by omega)

theorem Ins.step {f : Nat → Srv} {a y i : Nat} (h : Ins f a (y + 1) i) (ha : a ≤ y) (hlt : lt (f (y + 1)) (f y)) : Ins (rot f y (y + 1) (y + 2)) a y i := by
  refine ⟨fun p q h1 h2 h3 h4 h5 => ?_, fun q h1 h2 => ?_⟩
  · by_cases ep : p = y + 1
    · subst ep; rw [rot1_next, rot1_off (by omega) (by omega)]
      exact h.1 y q ha (by omega) h3 (by omega) (by omega)
    · rw [rot1_off h4 ep]
      by_cases eq : q = y + 1
      · subst eq; rw [rot1_next]; exact h.1 p y h1 (by omega) (by omega) ep (by omega)
      · rw [rot1_off h5 eq]; exact h.1 p q h1 h2 h3 ep eq
  · rw [rot1_at]
    by_cases eq : q = y + 1
    · subst eq; rw [rot1_next]; exact hlt
    · rw [rot1_off (by omega) eq]; exact h.2 q (by omega) h2

theorem Ins.done {f : Nat → Srv} {a j i : Nat} (h : Ins f a j i) (haj : a ≤ j) (hend : j = a ∨ le (f (j - 1)) (f j)) : SortedOn f a (i + 1) := by
  intro p q h1 h2 h3
  by_cases ep : p = j
  · subst ep; exact lt_le (h.2 q h2 (by omega))
  · by_cases eq : q = j
    · subst eq
      rcases hend with e | hl
      · omega
      · by_cases e1 : p = q - 1
        · subst e1; exact hl
        · exact le_trans (h.1 p (q - 1) h1 (by omega) (by omega) ep (by omega)) hl
    · exact h.1 p q h1 h2 (by omega) ep eq

theorem Stb_rot1 {f : Nat → Srv} {y : Nat} (h : lt (f (y + 1)) (f y)) : Stb f (rot f y (y + 1) (y + 2)) y (y + 2) :=
  Stb_rot (by omega) (by omega) fun i j h1 h2 h3 h4 => by
    have e1 : i = y := by omega
    have e2 : j = y + 1 := by omega
    subst e1; subst e2
    exact (ne_of_lt h).symm

theorem rot1_upd {f : Nat → Srv} {y : Nat} : ∀ i, upd (upd f (y + 1) (f y)) y (f (y + 1)) i = rot f y (y + 1) (y + 2) i := by
  intro i
  unfold upd
  by_cases e1 : i = y
  · subst e1; rw [if_pos rfl, rot1_at]
  · rw [if_neg e1]
    by_cases e2 : i = y + 1
    · subst e2; rw [if_pos rfl, rot1_next]
    · rw [if_neg e2, rot1_off e1 e2]

theorem rot1_upd' {f : Nat → Srv} {y : Nat} : ∀ i, upd (upd f y (f (y + 1))) (y + 1) (f y) i = rot f y (y + 1) (y + 2) i := by
  intro i
  unfold upd
  by_cases e2 : i = y + 1
  · subst e2; rw [if_pos rfl, rot1_next]
  · rw [if_neg e2]
    by_cases e1 : i = y
    · subst e1; rw [if_pos rfl, rot1_at]
    · rw [if_neg e1, rot1_off e1 e2]
end Go.Proofs.Qxb6613060aDoor
