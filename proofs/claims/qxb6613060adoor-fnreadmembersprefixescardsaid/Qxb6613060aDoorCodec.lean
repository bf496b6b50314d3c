/-
  SEAT b6613060aD: THE PLAIN LAW OF THE CODE: what is written is what is read; a proper head of it is not read. No Go in sight.
-/
import Derived.Test.Qxb6613060aDoorReadM
import Derived.Test.Qxb6613060aDoorKeys
namespace Go.Proofs.Qxb6613060aDoor
set_option linter.unusedVariables false

/-! ### Varints -/
theorem toU8 {n : Nat} (h : n < 256) : (n.toUInt8).toNat = n := by
  simp [Nat.toUInt8]; omega

theorem uvFrom_enc (rest : List UInt8) : ∀ (k x i acc : Nat), x ≤ k → i ≤ 9 → x * 2 ^ (7 * i) < 18446744073709551616 →
    Lib.uvarintFrom i acc (Lib.uvarint x ++ rest) = (acc + x * 2 ^ (7 * i), (i : Int) + ((Lib.uvarint x).length : Int)) := by
  intro k
  induction k with
  | zero =>
    intro x i acc hx hi hb
    have e : x = 0 := by omega
    subst e
    rw [Lib.uvarint_small (by omega), List.singleton_append]
    unfold Lib.uvarintFrom
    rw [if_neg (by omega), if_pos (by rw [toU8 (by omega)]; omega), if_neg (by rw [toU8 (by omega)]; omega), toU8 (by omega)]
    simp
  | succ k ih =>
    intro x i acc hx hi hb
    by_cases hs : x < 128
    · rw [Lib.uvarint_small hs, List.singleton_append]
      unfold Lib.uvarintFrom
      have h9 : ¬ (i = 9 ∧ 1 < x) := fun ⟨h1, h2⟩ => by
        subst h1
        have : 2 * 2 ^ (7 * 9) ≤ x * 2 ^ (7 * 9) := Nat.mul_le_mul_right _ h2
        have e : (2 : Nat) * 2 ^ (7 * 9) = 18446744073709551616 := by decide
        omega
      rw [if_neg (by omega), if_pos (by rw [toU8 (by omega)]; exact hs), if_neg (by rw [toU8 (by omega)]; exact h9), toU8 (by omega)]
      simp
    · have hb8 : (x % 128 + 128).toUInt8.toNat = x % 128 + 128 := toU8 (by omega)
      rw [Lib.uvarint_big (by omega), List.cons_append]
      have hi8 : i ≤ 8 := by
        apply Classical.byContradiction
        intro h
        have e : i = 9 := by omega
        subst e
        have : 128 * 2 ^ (7 * 9) ≤ x * 2 ^ (7 * 9) := Nat.mul_le_mul_right _ (by omega)
        have e : (2 : Nat) * 2 ^ (7 * 9) = 18446744073709551616 := by decide
        have e2 : (128 : Nat) * 2 ^ (7 * 9) = 64 * (2 * 2 ^ (7 * 9)) := by decide
        omega
      have hp : (2 : Nat) ^ (7 * (i + 1)) = 128 * 2 ^ (7 * i) := by
        rw [show 7 * (i + 1) = 7 * i + 7 by omega, Nat.pow_add, Nat.mul_comm]
      have hx128 : x / 128 * 2 ^ (7 * (i + 1)) ≤ x * 2 ^ (7 * i) := by
        rw [hp, ← Nat.mul_assoc]
        exact Nat.mul_le_mul_right _ (Nat.div_mul_le_self x 128)
      have step : Lib.uvarintFrom i acc ((x % 128 + 128).toUInt8 :: (Lib.uvarint (x / 128) ++ rest)) = Lib.uvarintFrom (i + 1) (acc + (x % 128 + 128).toUInt8.toNat % 128 * 2 ^ (7 * i)) (Lib.uvarint (x / 128) ++ rest) := by
        rw [Lib.uvarintFrom, if_neg (by omega), if_neg (by rw [hb8]; omega)]
      rw [step, ih (x / 128) (i + 1) _ (by omega) (by omega) (by omega), hb8]
      have hmod : (x % 128 + 128) % 128 = x % 128 := by omega
      rw [hmod, hp]
      have hsum : x % 128 * 2 ^ (7 * i) + x / 128 * (128 * 2 ^ (7 * i)) = x * 2 ^ (7 * i) := by
        rw [← Nat.mul_assoc, ← Nat.add_mul]
        congr 1
        omega
      rw [Nat.add_assoc, hsum, List.length_cons]
      congr 1
      omega

theorem uvDec_enc (x : Nat) (rest : List UInt8) (hx : x < 18446744073709551616) : Lib.uvarintDec (Lib.uvarint x ++ rest) = (x, ((Lib.uvarint x).length : Int)) := by
  unfold Lib.uvarintDec
  rw [uvFrom_enc rest x x 0 0 (Nat.le_refl _) (by omega) (by simpa using hx)]
  simp

theorem uvFrom_more : ∀ (l : List UInt8) (i acc : Nat), (∀ b ∈ l, 128 ≤ b.toNat) → (Lib.uvarintFrom i acc l).2 ≤ 0
  | [], i, acc, _ => by simp [Lib.uvarintFrom]
  | b :: r, i, acc, h => by
    have hb := h b (by simp)
    unfold Lib.uvarintFrom
    by_cases h1 : i = 10
    · rw [if_pos h1]; simp only; omega
    · rw [if_neg h1, if_neg (by omega)]
      exact uvFrom_more r _ _ fun c hc => h c (by simp [hc])

theorem uv_take_more : ∀ (k x m : Nat), x ≤ k → m < (Lib.uvarint x).length → ∀ b ∈ (Lib.uvarint x).take m, 128 ≤ b.toNat := by
  intro k
  induction k with
  | zero =>
    intro x m hx hm b hb
    rw [Lib.uvarint_small (by omega)] at hm hb
    simp at hm
    subst hm
    simp at hb
  | succ k ih =>
    intro x m hx hm b hb
    by_cases hs : x < 128
    · rw [Lib.uvarint_small hs] at hm hb
      simp at hm
      subst hm
      simp at hb
    · rw [Lib.uvarint_big (by omega)] at hm hb
      cases m with
      | zero => simp at hb
      | succ m =>
        rw [List.take_succ_cons, List.mem_cons] at hb
        rcases hb with rfl | hb
        · rw [toU8 (by omega)]; omega
        · exact ih (x / 128) m (by omega) (by simpa using hm) b hb

/-! ### The Decoder's steps -/
theorem duv_enc (x : Nat) (rest : List UInt8) (hx : x < 18446744073709551616) : duv (Lib.uvarint x ++ rest, true) = (x, (rest, true)) := by
  have hp := Lib.uvarint_pos x
  unfold duv
  rw [if_pos rfl, uvDec_enc x rest hx, if_neg (by simp only; omega)]
  simp

theorem duv_short (x m : Nat) (hm : m < (Lib.uvarint x).length) : (duv ((Lib.uvarint x).take m, true)).2.2 = false := by
  unfold duv
  rw [if_pos rfl, if_pos]
  exact uvFrom_more _ 0 0 (uv_take_more x x m (Nat.le_refl _) hm)

theorem duv_fail (r : List UInt8) : duv (r, false) = (0, (r, false)) := rfl
theorem dby_fail (n : Nat) (r : List UInt8) : dby n (r, false) = ([], (r, false)) := by unfold dby; simp

theorem dby_bad {n : Nat} {s : DSt} (h : s.2 = false) : (dby n s).2.2 = false := by
  obtain ⟨r, ok⟩ := s
  simp only at h
  subst h
  rw [dby_fail]
theorem duv_bad {s : DSt} (h : s.2 = false) : (duv s).2.2 = false := by
  obtain ⟨r, ok⟩ := s
  simp only at h
  subst h
  rfl
theorem dfield_bad {s : DSt} (h : s.2 = false) : (dfield s).2.2 = false := dby_bad (duv_bad h)
theorem dsrv_bad {s : DSt} (h : s.2 = false) : (dsrv s).2.2 = false := dfield_bad (dfield_bad (dfield_bad h))
theorem dlist_bad {s : DSt} (h : s.2 = false) (n : Nat) (acc : List Srv) : (dlist n s acc).2.2 = false := by
  cases n with
  | zero => exact h
  | succ n => unfold dlist; rw [if_neg (by rw [h]; simp)]; exact h

theorem dfield_enc (s : ByteArray) (rest : List UInt8) (hs : s.size < 18446744073709551616) : dfield (encStr s ++ rest, true) = (s.data.toList, (rest, true)) := by
  have hl : s.data.toList.length = s.size := str_len s
  unfold dfield encStr
  rw [List.append_assoc, duv_enc s.size _ hs]
  unfold dby
  rw [if_pos ⟨rfl, by simp only [List.length_append]; omega⟩]
  simp only
  rw [← hl, List.take_left, List.drop_left]

theorem dfield_short (s : ByteArray) (m : Nat) (hs : s.size < 18446744073709551616) (hm : m < (encStr s).length) : (dfield ((encStr s).take m, true)).2.2 = false := by
  have hl : s.data.toList.length = s.size := str_len s
  rw [encStr_len] at hm
  by_cases h : m < (Lib.uvarint s.size).length
  · have e : (encStr s).take m = (Lib.uvarint s.size).take m := by unfold encStr; rw [List.take_append_of_le_length (by omega)]
    rw [e]
    exact dby_bad (duv_short s.size m h)
  · have e : (encStr s).take m = Lib.uvarint s.size ++ s.data.toList.take (m - (Lib.uvarint s.size).length) := by
      unfold encStr
      rw [List.take_append, List.take_of_length_le (by omega)]
    rw [e]
    unfold dfield
    rw [duv_enc s.size _ hs]
    unfold dby
    rw [if_neg (by simp only [List.length_take]; omega)]

/-- a server as a voter's list bears it -/
def asVoter (x : Srv) : Srv := ⟨x.id, x.addr, x.api, false⟩

/-- its strings are no longer than Go's can be -/
def Small (x : Srv) : Prop := x.id.size < 18446744073709551616 ∧ x.addr.size < 18446744073709551616 ∧ x.api.size < 18446744073709551616

theorem ba_back (s : ByteArray) : (⟨s.data.toList.toArray⟩ : ByteArray) = s := by cases s; simp

theorem dsrv_enc (x : Srv) (rest : List UInt8) (h : Small x) : dsrv (encSrv x ++ rest, true) = (asVoter x, (rest, true)) := by
  have e1 : dfield (encSrv x ++ rest, true) = (x.id.data.toList, (encStr x.addr ++ (encStr x.api ++ rest), true)) := by
    unfold encSrv; rw [List.append_assoc, List.append_assoc]; exact dfield_enc x.id _ h.1
  unfold dsrv
  rw [e1]
  simp only
  rw [dfield_enc x.addr _ h.2.1]
  simp only
  rw [dfield_enc x.api _ h.2.2]
  simp only [ba_back]
  rfl

/-- of two codes one behind the other, a proper head: of the first, or the first whole and a proper head of the second -/
theorem prefix_two {c1 c2 : List UInt8} {m : Nat} (hm : m < (c1 ++ c2).length) : (m < c1.length ∧ (c1 ++ c2).take m = c1.take m) ∨ (∃ m', m' < c2.length ∧ m = c1.length + m' ∧ (c1 ++ c2).take m = c1 ++ c2.take m') := by
  rw [List.length_append] at hm
  by_cases h : m < c1.length
  · exact Or.inl ⟨h, List.take_append_of_le_length (by omega)⟩
  · refine Or.inr ⟨m - c1.length, by omega, by omega, ?_⟩
    rw [List.take_append, List.take_of_length_le (by omega)]

theorem dsrv_short (x : Srv) (m : Nat) (h : Small x) (hm : m < (encSrv x).length) : (dsrv ((encSrv x).take m, true)).2.2 = false := by
  unfold encSrv at hm ⊢
  rcases prefix_two hm with ⟨h1, e⟩ | ⟨m', h1, _, e⟩
  · rw [e]; exact dfield_bad (dfield_bad (dfield_short x.id m h.1 h1))
  · rw [e]
    show (dfield (dfield (dfield (encStr x.id ++ (encStr x.addr ++ encStr x.api).take m', true)).2).2).2.2 = false
    rw [dfield_enc x.id _ h.1]
    simp only
    rcases prefix_two h1 with ⟨h2, e2⟩ | ⟨m2, h2, _, e2⟩
    · rw [e2]; exact dfield_bad (dfield_short x.addr m' h.2.1 h2)
    · rw [e2, dfield_enc x.addr _ h.2.1]
      exact dfield_short x.api m2 h.2.2 h2

theorem dlist_enc : ∀ (l : List Srv) (rest : List UInt8) (acc : List Srv), (∀ x ∈ l, Small x) → dlist l.length (encSrvs l ++ rest, true) acc = (acc ++ l.map asVoter, (rest, true))
  | [], rest, acc, _ => by simp [dlist, encSrvs]
  | x :: l, rest, acc, h => by
    have e : encSrvs (x :: l) ++ rest = encSrv x ++ (encSrvs l ++ rest) := by unfold encSrvs; rw [List.flatMap_cons, List.append_assoc]
    rw [e, List.length_cons, dlist_succ _ _ _ rfl, dsrv_enc x _ (h x (by simp))]
    simp only
    rw [dlist_enc l rest _ fun y hy => h y (by simp [hy])]
    simp

theorem dlist_short : ∀ (l : List Srv) (m : Nat) (acc : List Srv), (∀ x ∈ l, Small x) → m < (encSrvs l).length → (dlist l.length ((encSrvs l).take m, true) acc).2.2 = false
  | [], m, acc, _, hm => by simp [encSrvs] at hm
  | x :: l, m, acc, h, hm => by
    have e : encSrvs (x :: l) = encSrv x ++ encSrvs l := by unfold encSrvs; rw [List.flatMap_cons]
    rw [e] at hm ⊢
    rw [List.length_cons]
    rcases prefix_two hm with ⟨h1, e1⟩ | ⟨m', h1, _, e1⟩
    · rw [e1, dlist_succ _ _ _ rfl]
      exact dlist_bad (dsrv_short x m (h x (by simp)) h1) _ _
    · rw [e1, dlist_succ _ _ _ rfl, dsrv_enc x _ (h x (by simp))]
      exact dlist_short l m' _ (fun y hy => h y (by simp [hy])) h1

theorem encSrvs_ge : ∀ l : List Srv, 3 * l.length ≤ (encSrvs l).length
  | [] => by simp [encSrvs]
  | x :: l => by
    have e : encSrvs (x :: l) = encSrv x ++ encSrvs l := by unfold encSrvs; rw [List.flatMap_cons]
    have := encSrvs_ge l
    have h1 := Lib.uvarint_pos x.id.size
    have h2 := Lib.uvarint_pos x.addr.size
    have h3 := Lib.uvarint_pos x.api.size
    rw [e, List.length_append, List.length_cons]
    unfold encSrv
    simp only [List.length_append, encStr_len]
    omega

theorem rsv_enc (l : List Srv) (rest : List UInt8) (h : ∀ x ∈ l, Small x) (hl : l.length ≤ 5461) : rsv (encList l ++ rest, true) = ((l.map asVoter, true), (rest, true)) := by
  have hd : dct (encList l ++ rest, true) = (l.length, (encSrvs l ++ rest, true)) := by
    unfold dct encList
    rw [List.append_assoc, duv_enc l.length _ (by omega)]
    have := encSrvs_ge l
    rw [if_pos ⟨rfl, by simp only [List.length_append]; omega⟩]
  unfold rsv
  rw [hd, if_pos ⟨rfl, hl⟩]
  simp only
  rw [dlist_enc l rest [] h]
  simp

theorem rsv_short (l : List Srv) (m : Nat) (h : ∀ x ∈ l, Small x) (hl : l.length ≤ 5461) (hm : m < (encList l).length) : (rsv ((encList l).take m, true)).1.2 = false := by
  unfold encList at hm ⊢
  rcases prefix_two hm with ⟨h1, e⟩ | ⟨m', h1, _, e⟩
  · rw [e]
    have hb := duv_short l.length m h1
    have hd : (dct ((Lib.uvarint l.length).take m, true)).2.2 = false := by
      unfold dct
      rw [if_neg (by rw [hb]; simp)]
    unfold rsv
    rw [if_neg (by rw [hd]; simp)]
  · rw [e]
    have hd : duv (Lib.uvarint l.length ++ (encSrvs l).take m', true) = (l.length, ((encSrvs l).take m', true)) := duv_enc l.length _ (by omega)
    by_cases hc : l.length ≤ ((encSrvs l).take m').length / 3
    · have hd2 : dct (Lib.uvarint l.length ++ (encSrvs l).take m', true) = (l.length, ((encSrvs l).take m', true)) := by
        unfold dct
        rw [hd, if_pos ⟨rfl, hc⟩]
      unfold rsv
      rw [hd2, if_pos ⟨rfl, hl⟩]
      exact dlist_short l m' [] h h1
    · have hd2 : (dct (Lib.uvarint l.length ++ (encSrvs l).take m', true)).2.2 = false := by
        unfold dct
        rw [hd, if_neg (by simp only; intro hh; exact hc hh.2)]
      unfold rsv
      rw [if_neg (by rw [hd2]; simp)]

/-! ### Members -/
theorem voters_asVoter (l : List Srv) : (votersOf l).map asVoter = votersOf l := by
  conv => rhs; rw [← List.map_id (votersOf l)]
  apply List.map_congr_left
  intro x hx
  unfold votersOf at hx
  rw [List.mem_filter] at hx
  have : x.non = false := by simpa using hx.2
  cases x
  simp only at this
  subst this
  rfl

theorem nons_asNon (l : List Srv) : ((nonsOf l).map asVoter).map asNon = nonsOf l := by
  rw [List.map_map]
  conv => rhs; rw [← List.map_id (nonsOf l)]
  apply List.map_congr_left
  intro x hx
  unfold nonsOf at hx
  rw [List.mem_filter] at hx
  have : x.non = true := by simpa using hx.2
  cases x
  simp only at this
  subst this
  rfl

theorem encList_pos (l : List Srv) : 0 < (encList l).length := by
  unfold encList
  rw [List.length_append]
  have := Lib.uvarint_pos l.length
  omega

theorem small_v {L : List Srv} (hS : ∀ x ∈ L, Small x) (hn : L.length ≤ 5461) : (∀ x ∈ votersOf L, Small x) ∧ (votersOf L).length ≤ 5461 := by
  refine ⟨fun x hx => hS x ?_, ?_⟩
  · unfold votersOf at hx; exact (List.mem_filter.1 hx).1
  · have := List.length_filter_le (fun x : Srv => !x.non) L; unfold votersOf; omega
theorem small_n {L : List Srv} (hS : ∀ x ∈ L, Small x) (hn : L.length ≤ 5461) : (∀ x ∈ nonsOf L, Small x) ∧ (nonsOf L).length ≤ 5461 := by
  refine ⟨fun x hx => hS x ?_, ?_⟩
  · unfold nonsOf at hx; exact (List.mem_filter.1 hx).1
  · have := List.length_filter_le (fun x : Srv => x.non) L; unfold nonsOf; omega

theorem rsv_voters {L : List Srv} (hS : ∀ x ∈ L, Small x) (hn : L.length ≤ 5461) (rest : List UInt8) : rsv (encList (votersOf L) ++ rest, true) = ((votersOf L, true), (rest, true)) := by
  have h := small_v hS hn
  rw [rsv_enc _ rest h.1 h.2, voters_asVoter]

/-- the whole code, none a non-voter -/
theorem rm_voters {L : List Srv} (hS : ∀ x ∈ L, Small x) (hn : L.length ≤ 5461) (h0 : (nonsOf L).length = 0) {ok : Bool} {n : Nat} {f : Nat → Srv} (h : RM (encMembers L, true) ok n f) : ok = true ∧ seg f 0 n = votersOf L := by
  have e : rsv (encMembers L, true) = ((votersOf L, true), ([], true)) := by
    unfold encMembers; rw [if_pos h0]; exact rsv_voters hS hn []
  have hF : rmFirst (encMembers L, true) := Or.inr (by rw [e])
  rcases h with ⟨_, h1, h2⟩ | ⟨h1, _⟩ | ⟨h1, _⟩
  · rw [e] at h1 h2; exact ⟨h1, h2⟩
  · exact absurd hF h1
  · exact absurd hF h1

/-- the whole code, with non-voters -/
theorem rm_both {L : List Srv} (hS : ∀ x ∈ L, Small x) (hn : L.length ≤ 5461) (h0 : (nonsOf L).length ≠ 0) {ok : Bool} {n : Nat} {f : Nat → Srv} (h : RM (encMembers L, true) ok n f) :
    ok = true ∧ n = (votersOf L ++ nonsOf L).length ∧ Stb (nth (votersOf L ++ nonsOf L)) f 0 n ∧ SortedOn f 0 n := by
  have e : rsv (encMembers L, true) = ((votersOf L, true), (encList (nonsOf L), true)) := by
    unfold encMembers; rw [if_neg h0]; exact rsv_voters hS hn _
  have e2 : rsv (encList (nonsOf L), true) = (((nonsOf L).map asVoter, true), ([], true)) := by
    have h := small_n hS hn
    have := rsv_enc (nonsOf L) [] h.1 h.2
    rwa [List.append_nil] at this
  have hF : ¬ rmFirst (encMembers L, true) := by
    unfold rmFirst
    rw [e]
    rintro (h | h)
    · cases h
    · have := encList_pos (nonsOf L)
      simp only at h
      rw [h] at this
      simp at this
  have hB : ¬ rmBad (encMembers L, true) := by
    unfold rmBad
    rw [e]
    simp only
    rw [e2]
    rintro (h | h | h)
    · cases h
    · simp only [List.length_map] at h; exact h0 h
    · exact h rfl
  have hA : rmAll (encMembers L, true) = votersOf L ++ nonsOf L := by
    unfold rmAll
    rw [e]
    simp only
    rw [e2]
    simp only
    rw [nons_asNon]
  rcases h with ⟨h1, _⟩ | ⟨_, h1, _⟩ | ⟨_, _, h1, h2, h3, h4⟩
  · exact absurd h1 hF
  · exact absurd h1 hB
  · rw [hA] at h2 h3; exact ⟨h1, h2, h3, h4⟩

/-- a proper head of the whole code -/
theorem rm_prefix {L : List Srv} (hS : ∀ x ∈ L, Small x) (hn : L.length ≤ 5461) {k : Nat} (hk : k < (encMembers L).length) {ok : Bool} {n : Nat} {f : Nat → Srv} (h : RM ((encMembers L).take k, true) ok n f) :
    (ok = true ↔ (nonsOf L).length ≠ 0 ∧ k = (encList (votersOf L)).length) ∧ (ok = true → seg f 0 n = votersOf L) := by
  have hv := small_v hS hn
  have hnn := small_n hS hn
  have bad : ∀ {s : DSt}, s = ((encMembers L).take k, true) → (rsv s).1.2 = false → ok = false := by
    intro s hs hb
    subst hs
    rcases h with ⟨_, h1, _⟩ | ⟨_, _, h1⟩ | ⟨h1, _⟩
    · rw [h1, hb]
    · exact h1
    · exact absurd (Or.inl hb) h1
  unfold encMembers at hk
  by_cases c1 : k < (encList (votersOf L)).length
  · have e : (encMembers L).take k = (encList (votersOf L)).take k := by unfold encMembers; exact List.take_append_of_le_length (by omega)
    have hf := bad rfl (by rw [e]; exact rsv_short _ k hv.1 hv.2 c1)
    exact ⟨⟨(fun h => by rw [hf] at h; cases h), (fun h => by omega)⟩, (fun h => by rw [hf] at h; cases h)⟩
  · have h0 : ¬ (nonsOf L).length = 0 := by
      intro h0
      rw [if_pos h0, List.append_nil] at hk
      omega
    rw [if_neg h0] at hk
    by_cases c2 : k = (encList (votersOf L)).length
    · have e : (encMembers L).take k = encList (votersOf L) ++ [] := by
        unfold encMembers; rw [c2, List.take_left, List.append_nil]
      have er : rsv ((encMembers L).take k, true) = ((votersOf L, true), ([], true)) := by rw [e]; exact rsv_voters hS hn []
      have hF : rmFirst ((encMembers L).take k, true) := Or.inr (by rw [er])
      rcases h with ⟨_, h1, h2⟩ | ⟨h1, _⟩ | ⟨h1, _⟩
      · rw [er] at h1 h2
        exact ⟨⟨fun _ => ⟨h0, c2⟩, fun _ => h1⟩, fun _ => h2⟩
      · exact absurd hF h1
      · exact absurd hF h1
    · rw [List.length_append] at hk
      have hm : k - (encList (votersOf L)).length < (encList (nonsOf L)).length := by omega
      have e : (encMembers L).take k = encList (votersOf L) ++ (encList (nonsOf L)).take (k - (encList (votersOf L)).length) := by
        unfold encMembers; rw [if_neg h0, List.take_append, List.take_of_length_le (by omega)]
      have er : rsv ((encMembers L).take k, true) = ((votersOf L, true), ((encList (nonsOf L)).take (k - (encList (votersOf L)).length), true)) := by rw [e]; exact rsv_voters hS hn _
      have hs := rsv_short (nonsOf L) _ hnn.1 hnn.2 hm
      have hF : ¬ rmFirst ((encMembers L).take k, true) := by
        unfold rmFirst
        rw [er]
        rintro (h | h)
        · cases h
        · simp only at h
          have := congrArg List.length h
          rw [List.length_take, List.length_nil] at this
          omega
      have hB : rmBad ((encMembers L).take k, true) := Or.inl (by rw [er]; exact hs)
      have hf : ok = false := by
        rcases h with ⟨h1, _⟩ | ⟨_, _, h1⟩ | ⟨_, h1, _⟩
        · exact absurd h1 hF
        · exact h1
        · exact absurd hB h1
      exact ⟨⟨(fun h => by rw [hf] at h; cases h), (fun h => by omega)⟩, (fun h => by rw [hf] at h; cases h)⟩
end Go.Proofs.Qxb6613060aDoor
