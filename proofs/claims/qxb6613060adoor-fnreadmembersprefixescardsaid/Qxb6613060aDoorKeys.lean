/-
  SEAT b6613060aD: THE PLAIN LAW OF THE EXPECTED ORDER (by id, a voter ahead of a non-voter of the same id), and that both sorts give one list. No Go in sight.
-/
import Derived.Test.Qxb6613060aDoorMerge
namespace Go.Proofs.Qxb6613060aDoor
set_option linter.unusedVariables false

/-! ### The order by id and vote -/
def klt (x y : Srv) : Prop := lt x y ∨ (x.key = y.key ∧ x.non = false ∧ y.non = true)
def kle (x y : Srv) : Prop := ¬ klt y x

theorem klt_irrefl (x : Srv) : ¬ klt x x := by
  rintro (h | ⟨_, h1, h2⟩)
  · exact lt_irrefl x h
  · rw [h1] at h2; cases h2

theorem klt_trans {x y z : Srv} (h : klt x y) (k : klt y z) : klt x z := by
  rcases h with h | ⟨e1, a1, b1⟩
  · rcases k with k | ⟨e2, _, _⟩
    · exact Or.inl (lt_trans h k)
    · exact Or.inl (lt_key h rfl e2)
  · rcases k with k | ⟨_, a2, _⟩
    · exact Or.inl (lt_key k e1.symm rfl)
    · rw [b1] at a2; cases a2

theorem klt_kle {x y : Srv} (h : klt x y) : kle x y := fun k => klt_irrefl _ (klt_trans h k)
theorem kle_le {x y : Srv} (h : kle x y) : le x y := fun k => h (Or.inl k)

theorem kle_iff (x y : Srv) : kle x y ↔ lt x y ∨ (x.key = y.key ∧ (x.non = true → y.non = true)) := by
  constructor
  · intro h
    by_cases e : x.key = y.key
    · refine Or.inr ⟨e, fun hx => ?_⟩
      cases hy : y.non
      · exact absurd (Or.inr ⟨e.symm, hy, hx⟩) h
      · rfl
    · exact Or.inl (lt_of_ne (kle_le h) e)
  · rintro (h | ⟨e, hn⟩) k
    · rcases k with k | ⟨e, _, _⟩
      · exact lt_irrefl _ (lt_trans h k)
      · exact ne_of_lt h e.symm
    · rcases k with k | ⟨_, a, b⟩
      · exact ne_of_lt k e.symm
      · rw [hn b] at a; cases a

theorem kle_trans {x y z : Srv} (h : kle x y) (k : kle y z) : kle x z := by
  rw [kle_iff] at *
  rcases h with h | ⟨e1, n1⟩
  · rcases k with k | ⟨e2, _⟩
    · exact Or.inl (lt_trans h k)
    · exact Or.inl (lt_key h rfl e2)
  · rcases k with k | ⟨e2, n2⟩
    · exact Or.inl (lt_key k e1.symm rfl)
    · exact Or.inr ⟨e1.trans e2, fun hx => n2 (n1 hx)⟩

theorem kle_refl (x : Srv) : kle x x := klt_irrefl x

/-- those of a list with the id k and the vote b -/
def onlyK (k : List UInt8) (b : Bool) (l : List Srv) : List Srv := l.filter fun x => decide (x.key = k ∧ x.non = b)

def StbK (f f' : Nat → Srv) (n : Nat) : Prop := ∀ k b, onlyK k b (seg f' 0 n) = onlyK k b (seg f 0 n)

theorem onlyK_append (k : List UInt8) (b : Bool) (l l' : List Srv) : onlyK k b (l ++ l') = onlyK k b l ++ onlyK k b l' := List.filter_append ..

theorem StbK_rot1 {f : Nat → Srv} {y n : Nat} (hy : y + 2 ≤ n) (h : klt (f (y + 1)) (f y)) : StbK f (rot f y (y + 1) (y + 2)) n := by
  intro k b
  have out : ∀ a c, (c ≤ y ∨ y + 2 ≤ a) → seg (rot f y (y + 1) (y + 2)) a c = seg f a c := fun a c hac => seg_congr fun i h1 h2 => rot_out (by omega) (by omega) (by omega)
  rw [seg_append _ (Nat.zero_le y) (by omega : y ≤ n), seg_append _ (show y ≤ y + 2 by omega) hy, seg_append f (Nat.zero_le y) (by omega : y ≤ n), seg_append f (show y ≤ y + 2 by omega) hy, out 0 y (Or.inl (Nat.le_refl _)), out (y + 2) n (Or.inr (Nat.le_refl _))]
  simp only [onlyK_append]
  congr 2
  have s1 : seg f y (y + 1) = [f y] := by unfold seg; rw [show y + 1 - y = 1 by omega]; rfl
  have s2 : seg f (y + 1) (y + 2) = [f (y + 1)] := by unfold seg; rw [show y + 2 - (y + 1) = 1 by omega]; rfl
  have s3 : seg f y (y + 2) = [f y, f (y + 1)] := by rw [seg_append f (show y ≤ y + 1 by omega) (show y + 1 ≤ y + 2 by omega), s1, s2]; rfl
  rw [seg_rot f (show y ≤ y + 1 by omega) (show y + 1 ≤ y + 2 by omega), s1, s2, s3]
  unfold onlyK
  by_cases c1 : (f y).key = k ∧ (f y).non = b
  · have c2 : ¬ ((f (y + 1)).key = k ∧ (f (y + 1)).non = b) := fun c => by
      rcases h with h | ⟨_, a1, a2⟩
      · exact ne_of_lt h (c.1.trans c1.1.symm)
      · rw [c.2, ← c1.2, a2] at a1; cases a1
    simp [c1, c2]
  · have pf : (decide ((f y).key = k ∧ (f y).non = b)) = false := decide_eq_false c1
    simp only [List.singleton_append, List.filter_cons, List.filter_nil, pf, Bool.false_eq_true, if_false]

theorem StbK.trans {f f' f'' : Nat → Srv} {n : Nat} (h : StbK f f' n) (k : StbK f' f'' n) : StbK f f'' n := fun c b => (k c b).trans (h c b)
theorem StbK.refl (f : Nat → Srv) (n : Nat) : StbK f f n := fun _ _ => rfl
theorem StbK.congr {f f' f'' : Nat → Srv} {n : Nat} (h : StbK f f' n) (e : ∀ i, i < n → f'' i = f' i) : StbK f f'' n := fun c b => by
  rw [seg_congr (f := f'') (f' := f') (fun i _ hi => e i hi)]; exact h c b

/-! ### Insertion by that order -/
def SortedK (f : Nat → Srv) (n : Nat) : Prop := ∀ i j, i < j → j < n → kle (f i) (f j)

structure InsK (f : Nat → Srv) (j i : Nat) : Prop where
  rest : ∀ p q, p < q → q ≤ i → p ≠ j → q ≠ j → kle (f p) (f q)
  up : ∀ q, j < q → q ≤ i → klt (f j) (f q)

theorem InsK.start {f : Nat → Srv} {i : Nat} (h : SortedK f i) : InsK f i i := ⟨fun p q h2 h3 _ h5 => h p q h2 (by omega), fun q h1 h2 => by omega⟩

theorem InsK.step {f : Nat → Srv} {y i : Nat} (h : InsK f (y + 1) i) (hlt : klt (f (y + 1)) (f y)) : InsK (rot f y (y + 1) (y + 2)) y i := by
  refine ⟨fun p q h2 h3 h4 h5 => ?_, fun q h1 h2 => ?_⟩
  · by_cases ep : p = y + 1
    · subst ep; rw [rot1_next, rot1_off (by omega) (by omega)]
      exact h.rest y q (by omega) h3 (by omega) (by omega)
    · rw [rot1_off h4 ep]
      by_cases eq : q = y + 1
      · subst eq; rw [rot1_next]; exact h.rest p y (by omega) (by omega) ep (by omega)
      · rw [rot1_off h5 eq]; exact h.rest p q h2 h3 ep eq
  · rw [rot1_at]
    by_cases eq : q = y + 1
    · subst eq; rw [rot1_next]; exact hlt
    · rw [rot1_off (by omega) eq]; exact h.up q (by omega) h2

theorem InsK.done {f : Nat → Srv} {j i : Nat} (h : InsK f j i) (hend : j = 0 ∨ kle (f (j - 1)) (f j)) : SortedK f (i + 1) := by
  intro p q h2 h3
  by_cases ep : p = j
  · subst ep; exact klt_kle (h.up q h2 (by omega))
  · by_cases eq : q = j
    · subst eq
      rcases hend with e | hl
      · omega
      · by_cases e1 : p = q - 1
        · subst e1; exact hl
        · exact kle_trans (h.rest p (q - 1) (by omega) (by omega) ep (by omega)) hl
    · exact h.rest p q h2 (by omega) ep eq

/-! ### One list -/
theorem only_key {k : List UInt8} {l : List Srv} {x : Srv} (h : x ∈ only k l) : x.key = k := by
  unfold only at h; rw [List.mem_filter] at h; simpa using h.2

/-- TWO LISTS IN THE ORDER OF THE IDS WHICH HAVE OF EACH ID THE SAME SERVERS IN THE SAME ORDER ARE ONE. -/
theorem sorted_unique : ∀ (A B : List Srv), A.Pairwise le → B.Pairwise le → (∀ k, only k A = only k B) → A = B
  | [], [], _, _, _ => rfl
  | [], b :: B, _, _, h => by
    have := h b.key
    unfold only at this
    simp at this
  | a :: A, [], _, _, h => by
    have := h a.key
    unfold only at this
    simp at this
  | a :: A, b :: B, hA, hB, h => by
    rw [List.pairwise_cons] at hA hB
    have hab : a.key = b.key := by
      have ma : a ∈ b :: B := by
        have : a ∈ only a.key (a :: A) := by unfold only; simp
        rw [h] at this
        unfold only at this
        exact (List.mem_filter.1 this).1
      have mb : b ∈ a :: A := by
        have : b ∈ only b.key (b :: B) := by unfold only; simp
        rw [← h] at this
        unfold only at this
        exact (List.mem_filter.1 this).1
      have h1 : le b a := by
        rcases List.mem_cons.1 ma with e | m
        · rw [e]; exact le_refl _
        · exact hB.1 a m
      have h2 : le a b := by
        rcases List.mem_cons.1 mb with e | m
        · rw [e]; exact le_refl _
        · exact hA.1 b m
      exact le_antisymm h2 h1
    have e0 := h a.key
    unfold only at e0
    rw [List.filter_cons_of_pos (by simp), List.filter_cons_of_pos (by simp [hab])] at e0
    have eab : a = b := (List.cons.inj e0).1
    subst eab
    refine congrArg _ (sorted_unique A B hA.2 hB.2 fun k => ?_)
    have ek := h k
    unfold only at ek ⊢
    by_cases hk : a.key = k
    · rw [List.filter_cons_of_pos (by simp [hk]), List.filter_cons_of_pos (by simp [hk])] at ek
      exact (List.cons.inj ek).2
    · rw [List.filter_cons_of_neg (by simp [hk]), List.filter_cons_of_neg (by simp [hk])] at ek
      exact ek

theorem pairwise_seg {R : Srv → Srv → Prop} {f : Nat → Srv} {n : Nat} (h : ∀ i j, i < j → j < n → R (f i) (f j)) : (seg f 0 n).Pairwise R := by
  unfold seg
  rw [List.pairwise_map, List.pairwise_iff_getElem]
  intro i j hi hj hij
  simp at hi hj ⊢
  exact h i j hij hj

/-- a list of one id in order: the voters, then the others -/
theorem voters_first : ∀ (l : List Srv), l.Pairwise (fun x y => x.non = true → y.non = true) → l = l.filter (fun x => !x.non) ++ l.filter (fun x => x.non)
  | [], _ => rfl
  | x :: l, h => by
    rw [List.pairwise_cons] at h
    cases hx : x.non
    · rw [List.filter_cons_of_pos (by simp [hx]), List.filter_cons_of_neg (by simp [hx]), List.cons_append, ← voters_first l h.2]
    · have hall : ∀ y ∈ l, y.non = true := fun y hy => h.1 y hy hx
      have e1 : l.filter (fun x => !x.non) = [] := by rw [List.filter_eq_nil_iff]; intro y hy; simp [hall y hy]
      have e2 : l.filter (fun x => x.non) = l := by rw [List.filter_eq_self]; intro y hy; exact hall y hy
      rw [List.filter_cons_of_neg (by simp [hx]), List.filter_cons_of_pos (by simp [hx]), e1, e2]
      rfl

/-- BOTH SORTS GIVE ONE LIST: r is the stable sort by id of the voters and then the non-voters of f; t is f sorted stably by id and vote. -/
theorem both_sorts {f r t : Nat → Srv} {n : Nat} {L : List Srv} (hL : L = (seg f 0 n).filter (fun x => !x.non) ++ (seg f 0 n).filter (fun x => x.non))
    (hr : ∀ k, only k (seg r 0 n) = only k L) (sr : SortedOn r 0 n) (ht : StbK f t n) (st : SortedK t n) : seg r 0 n = seg t 0 n := by
  refine sorted_unique _ _ (pairwise_seg fun i j h1 h2 => sr i j (Nat.zero_le _) h1 h2) (pairwise_seg fun i j h1 h2 => kle_le (st i j h1 h2)) fun k => ?_
  rw [hr k, hL]
  have p : (only k (seg t 0 n)).Pairwise (fun x y => x.non = true → y.non = true) := by
    have h1 : (seg t 0 n).Pairwise kle := pairwise_seg fun i j h1 h2 => st i j h1 h2
    have h2 : (only k (seg t 0 n)).Pairwise kle := List.Pairwise.filter _ h1
    refine List.Pairwise.imp_of_mem ?_ h2
    intro x y hx hy hk
    rw [kle_iff] at hk
    rcases hk with hk | hk
    · exact absurd ((only_key hx).trans (only_key hy).symm) (ne_of_lt hk)
    · exact hk.2
  rw [voters_first _ p]
  have e : ∀ b, (only k (seg t 0 n)).filter (fun x => decide (x.non = b)) = onlyK k b (seg t 0 n) := fun b => by
    unfold only onlyK; rw [List.filter_filter]; congr 1; funext x; simp [Bool.and_comm]
  have e0 : (only k (seg t 0 n)).filter (fun x => !x.non) = onlyK k false (seg t 0 n) := by rw [← e false]; congr 1; funext x; cases x.non <;> rfl
  have e1 : (only k (seg t 0 n)).filter (fun x => x.non) = onlyK k true (seg t 0 n) := by rw [← e true]; congr 1; funext x; cases x.non <;> rfl
  rw [e0, e1, ht k false, ht k true]
  unfold only onlyK
  rw [List.filter_append, List.filter_filter, List.filter_filter]
  congr 1
  · congr 1; funext x; cases x.non <;> simp
  · congr 1; funext x; cases x.non <;> simp
end Go.Proofs.Qxb6613060aDoor
