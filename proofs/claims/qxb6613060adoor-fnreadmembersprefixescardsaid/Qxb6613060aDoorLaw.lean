/-
  SEAT b6613060aD: the plain law of the round trip, and how long the code is. No Go in sight.
-/
import Derived.Test.Qxb6613060aDoorCodec
import Derived.Test.Qxb6613060aDoorExpect
namespace Go.Proofs.Qxb6613060aDoor
set_option linter.unusedVariables false

theorem mem_seg0 {f : Nat → Srv} {n : Nat} {x : Srv} (h : x ∈ seg f 0 n) : ∃ i, i < n ∧ f i = x := by
  obtain ⟨i, _, h1, h2⟩ := mem_seg.1 h
  exact ⟨i, h1, h2⟩

theorem seg_mem (f : Nat → Srv) {n i : Nat} (h : i < n) : f i ∈ seg f 0 n := by
  unfold seg
  rw [List.mem_map]
  exact ⟨i, by rw [List.mem_range'_1]; omega, rfl⟩

theorem small_seg {f : Nat → Srv} {n : Nat} (hf : Fits f n) : ∀ x ∈ seg f 0 n, Small x := by
  intro x hx
  obtain ⟨i, hi, rfl⟩ := mem_seg0 hx
  obtain ⟨h0, h1, h2⟩ := hf i hi
  exact ⟨by omega, by omega, by omega⟩

theorem seg_eq {f r : Nat → Srv} {m n : Nat} (h : seg r 0 m = seg f 0 n) : m = n ∧ ∀ i, i < n → r i = f i := by
  have e : m = n := by
    have := congrArg List.length h
    rw [seg_length, seg_length] at this
    omega
  subst e
  exact ⟨rfl, fun i hi => by rw [← nth_seg r m i hi, h, nth_seg f m i hi]⟩

theorem split_len (l : List Srv) : (votersOf l ++ nonsOf l).length = l.length := by
  induction l with
  | nil => rfl
  | cons x l ih =>
    rw [List.length_append] at ih ⊢
    unfold votersOf nonsOf at ih ⊢
    cases h : x.non
    · rw [List.filter_cons_of_pos (by simp [h]), List.filter_cons_of_neg (by simp [h])]
      simp only [List.length_cons]; omega
    · rw [List.filter_cons_of_neg (by simp [h]), List.filter_cons_of_pos (by simp [h])]
      simp only [List.length_cons]; omega

theorem no_nons {f : Nat → Srv} {n : Nat} (h : (nonsOf (seg f 0 n)).length = 0) : ∀ i, i < n → (f i).non = false := by
  intro i hi
  cases hx : (f i).non with
  | false => rfl
  | true =>
    have : f i ∈ nonsOf (seg f 0 n) := by unfold nonsOf; rw [List.mem_filter]; exact ⟨seg_mem f hi, hx⟩
    rw [List.length_eq_zero_iff.1 h] at this
    cases this

theorem all_voters {f : Nat → Srv} {n : Nat} (h : ∀ i, i < n → (f i).non = false) : votersOf (seg f 0 n) = seg f 0 n := by
  unfold votersOf
  rw [List.filter_eq_self]
  intro x hx
  obtain ⟨i, hi, rfl⟩ := mem_seg0 hx
  simp [h i hi]

theorem none_nons {f : Nat → Srv} {n : Nat} (h : ∀ i, i < n → (f i).non = false) : (nonsOf (seg f 0 n)).length = 0 := by
  rw [List.length_eq_zero_iff]
  unfold nonsOf
  rw [List.filter_eq_nil_iff]
  intro x hx
  obtain ⟨i, hi, rfl⟩ := mem_seg0 hx
  simp [h i hi]

/-- THE ROUND TRIP: what is read is what is expected -/
theorem back {f t r : Nat → Srv} {n m : Nat} {ok : Bool} (hf : Fits f n) (hn : n ≤ 4096) (h : RM (encMembers (seg f 0 n), true) ok m r) (hx : Exp f t n) : ok = true ∧ m = n ∧ ∀ i, i < n → r i = t i := by
  have hS := small_seg hf
  have hl : (seg f 0 n).length ≤ 5461 := by rw [seg_length]; omega
  by_cases h0 : (nonsOf (seg f 0 n)).length = 0
  · obtain ⟨h1, h2⟩ := rm_voters hS hl h0 h
    rw [all_voters (no_nons h0)] at h2
    obtain ⟨h3, h4⟩ := seg_eq h2
    rcases hx with ⟨_, e⟩ | ⟨⟨i, hi, hni⟩, _⟩
    · exact ⟨h1, h3, fun i hi => by rw [h4 i hi, e i hi]⟩
    · rw [no_nons h0 i hi] at hni; cases hni
  · obtain ⟨h1, h2, h3, h4⟩ := rm_both hS hl h0 h
    rcases hx with ⟨hv, _⟩ | ⟨_, e1, e2⟩
    · exact absurd (none_nons hv) h0
    · have hm : m = n := by rw [h2, split_len, seg_length]; omega
      have hL : seg (nth (votersOf (seg f 0 n) ++ nonsOf (seg f 0 n))) 0 n = votersOf (seg f 0 n) ++ nonsOf (seg f 0 n) := by
        have h := seg_nth (votersOf (seg f 0 n) ++ nonsOf (seg f 0 n))
        rw [← h2, hm] at h
        exact h
      subst hm
      have := both_sorts (f := f) (r := r) (t := t) (n := m) (L := votersOf (seg f 0 m) ++ nonsOf (seg f 0 m)) rfl (fun k => by rw [h3.2 k, hL]) h4 e1 e2
      exact ⟨h1, rfl, (seg_eq this).2⟩

theorem got_ok {f r : Nat → Srv} {n m : Nat} {ok : Bool} (hf : Fits f n) (hn : n ≤ 4096) (h : RM (encMembers (seg f 0 n), true) ok m r) : ok = true := by
  have hS := small_seg hf
  have hl : (seg f 0 n).length ≤ 5461 := by rw [seg_length]; omega
  by_cases h0 : (nonsOf (seg f 0 n)).length = 0
  · exact (rm_voters hS hl h0 h).1
  · exact (rm_both hS hl h0 h).1

/-! ### How long the code is -/
theorem encSrv_le {x : Srv} (h : Small x) : (encSrv x).length ≤ 30 + (x.id.size + x.addr.size + x.api.size) := by
  have h1 := Lib.uvarint_length64 h.1
  have h2 := Lib.uvarint_length64 h.2.1
  have h3 := Lib.uvarint_length64 h.2.2
  unfold encSrv
  simp only [List.length_append, encStr_len]
  omega

theorem encSrvs_snoc (l : List Srv) (x : Srv) : (encSrvs (l ++ [x])).length = (encSrvs l).length + (encSrv x).length := by
  unfold encSrvs; rw [List.flatMap_append, List.length_append]; simp

theorem encBoth_le (f : Nat → Srv) : ∀ n, Fits f n → (encSrvs (votersOf (seg f 0 n))).length + (encSrvs (nonsOf (seg f 0 n))).length ≤ 30 * n + tot f n
  | 0, _ => by rw [seg_nil f (Nat.le_refl 0)]; simp [votersOf, nonsOf, encSrvs]
  | n + 1, hf => by
    have ih := encBoth_le f n fun i hi => hf i (by omega)
    have hs : Small (f n) := small_seg hf _ (seg_mem f (by omega))
    have he := encSrv_le hs
    have ht : tot f (n + 1) = tot f n + ((f n).id.size + (f n).addr.size + (f n).api.size) := rfl
    cases h : (f n).non
    · obtain ⟨e1, e2⟩ := voters_yes f n h
      rw [e1, e2, encSrvs_snoc]; omega
    · obtain ⟨e1, e2⟩ := voters_no f n h
      rw [e1, e2, encSrvs_snoc]; omega

theorem encMembers_le {f : Nat → Srv} {n : Nat} (hf : Fits f n) (hn : n ≤ 4096) : (encMembers (seg f 0 n)).length ≤ 20 + 30 * n + tot f n := by
  have h := encBoth_le f n hf
  have l1 := lv_le f n
  have l2 := ln_le f n
  have u1 := Lib.uvarint_length64 (x := (votersOf (seg f 0 n)).length) (by omega)
  have u2 := Lib.uvarint_length64 (x := (nonsOf (seg f 0 n)).length) (by omega)
  unfold encMembers
  by_cases h0 : (nonsOf (seg f 0 n)).length = 0
  · rw [if_pos h0]
    unfold encList
    simp only [List.length_append, List.length_nil]
    omega
  · rw [if_neg h0]
    unfold encList
    simp only [List.length_append]
    omega

theorem encMembers_pos (l : List Srv) : 0 < (encMembers l).length := by
  have := encList_pos (votersOf l)
  unfold encMembers
  rw [List.length_append]
  omega
end Go.Proofs.Qxb6613060aDoor
