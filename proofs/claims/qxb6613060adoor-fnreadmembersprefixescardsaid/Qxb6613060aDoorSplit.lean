/-
  SEAT b6613060aD: the walks of splitVotes and AppendMembers.
-/
import Derived.Test.Qxb6613060aDoorServers
import Derived.Maps.AppendAt
namespace Go.Proofs.Qxb6613060aDoor
open Go.ChangeShapes Go.WideShapes Go.ChangeAt Go.RowKit
set_option linter.unusedVariables false

/-! ### A slice of servers that is appended to -/
def cells4 (x : Srv) : List Value := [.string x.id, .string x.addr, .string x.api, .bool x.non]
def flat4 (l : List Srv) : List Value := l.flatMap cells4

/-- servers owned from block B on -/
def OwnL (B : Nat) (w : World) (v : Value) (l : List Srv) : Prop := w.ownsRow B 39 4 v l.length (flat4 l)

/-- a list by its index -/
def nth (l : List Srv) : Nat → Srv := fun i => l.getD i Srv.zero

theorem flat4_length (l : List Srv) : (flat4 l).length = l.length * 4 := by
  induction l with
  | nil => rfl
  | cons x l ih => unfold flat4 at *; rw [List.flatMap_cons, List.length_append, ih, List.length_cons]; unfold cells4; simp; omega

theorem flat4_at : ∀ (l : List Srv) (j : Nat), j < l.length * 4 → (flat4 l)[j]? = some (c4 (nth l) j)
  | [], j, h => by simp at h
  | x :: l, j, h => by
    unfold flat4
    rw [List.flatMap_cons]
    by_cases hj : j < 4
    · rw [List.getElem?_append_left (by unfold cells4; simpa using hj)]
      rcases (show j = 0 ∨ j = 1 ∨ j = 2 ∨ j = 3 by omega) with rfl | rfl | rfl | rfl <;> simp [cells4, c4, nth]
    · rw [List.getElem?_append_right (by unfold cells4; simp; omega)]
      have e : (cells4 x).length = 4 := rfl
      rw [e]
      have ih := flat4_at l (j - 4) (by simp at h; omega)
      unfold flat4 at ih
      rw [ih]
      have hd : j / 4 = (j - 4) / 4 + 1 := by omega
      have hm : j % 4 = (j - 4) % 4 := by omega
      unfold c4 nth
      rw [hd, hm]
      simp

theorem seg_nth (l : List Srv) : seg (nth l) 0 l.length = l := by
  apply List.ext_getElem
  · rw [seg_length]; omega
  · intro i h1 h2
    unfold seg
    simp [nth, h2]

theorem OwnL.slice {B : Nat} {w : World} {v : Value} {l : List Srv} (h : OwnL B w v l) : ∃ a cap, v = .slice a l.length cap ∧ SrvS w a l.length (nth l) := by
  rcases h.2 with ⟨rfl, h0⟩ | ⟨g, cap, cur, rfl, _, hh, hc, _, hs, ht⟩
  · exact ⟨none, 0, by rw [h0], Or.inl ⟨rfl, h0⟩⟩
  · refine ⟨_, cap, rfl, Or.inr ⟨g, rfl, cur, hh, by rw [hs]; exact Nat.mul_le_mul_right 4 hc, fun j hj => ?_⟩⟩
    rw [← flat4_at l j hj, ← ht]
    simp [hj]

theorem OwnL.nil (B : Nat) (w : World) : OwnL B w (.slice none 0 0) [] := World.ownsRow_nil _ _ _ _

theorem Tryd.info39 : (Tryd.prog.info? 39).map (fun i => (i.zero, i.size, i.bytes)) = some (some (.agg #[.string ByteArray.empty, .string ByteArray.empty, .string ByteArray.empty, .bool false]), 4, 56) := by kernel_rfl

theorem cells_four_new (w : World) (x : Srv) (t : TypeId) : ∀ j u, (cells4 x)[j]? = some u → (w.alloc (.cells #[.string x.id, .string x.addr, .string x.api, .bool x.non] t)).cell? ((⟨w.heap.size, 0, none⟩ : Addr).add j) = some u := by
  intro j u hj
  have hlt : j < 4 := by
    have := (List.getElem?_eq_some_iff.1 hj).1
    simpa [cells4] using this
  have ea : (⟨w.heap.size, 0, none⟩ : Addr).add j = ⟨w.heap.size, j, none⟩ := by unfold Addr.add; by_cases h : j = 0 <;> simp [h]
  rw [ea, cell_of_row _ _ _ _ _ _ (heap_alloc_new _ _), ← hj]
  rcases (show j = 0 ∨ j = 1 ∨ j = 2 ∨ j = 3 by omega) with rfl | rfl | rfl | rfl <;> rfl

theorem cells4_one (x : Srv) : ∀ u ∈ cells4 x, u.oneCell' = true := by
  intro u hu
  simp [cells4] at hu
  rcases hu with rfl | rfl | rfl | rfl <;> rfl

theorem flat4_snoc (l : List Srv) (x : Srv) : flat4 (l ++ [x]) = flat4 l ++ cells4 x := by unfold flat4; rw [List.flatMap_append]; simp

def isNon (x : Srv) : Bool := x.non
def votersOf (l : List Srv) : List Srv := l.filter fun x => !x.non
def nonsOf (l : List Srv) : List Srv := l.filter fun x => x.non

/-- the two rows lie in two blocks -/
def Disj (v1 v2 : Value) : Prop := ∀ b, v1.ownBlock = some b → v2.ownBlock ≠ some b

theorem Disj.symm {v1 v2 : Value} (h : Disj v1 v2) : Disj v2 v1 := fun b h1 h2 => h b h2 h1

theorem Disj.keep {v1 v2 : Value} (h : Disj v1 v2) : v2.ownBlock = none ∨ v2.ownBlock ≠ v1.ownBlock := by
  cases h2 : v2.ownBlock with
  | none => exact Or.inl rfl
  | some b => exact Or.inr fun e => h b e.symm h2

/-- behind an append to v1 -/
theorem Disj.next {B H : Nat} {w : World} {v1 v2 v' : Value} {l2 : List Srv} (h : Disj v1 v2) (h2 : OwnL B w v2 l2) (hH : w.heap.size ≤ H) (hat : v'.ownBlock = v1.ownBlock ∨ v'.ownBlock = some H) : Disj v' v2 := by
  intro b hb e
  rcases hat with h1 | h1
  · exact h b (h1 ▸ hb) e
  · rw [h1] at hb
    simp at hb
    have := (h2.lt b e).2
    omega

theorem grown_two {B : Nat} {w w1 : World} {o1 o2 : Obj} {v : Value} {n : Nat} {xs : List Value} {W : World} (hb : Below B W w) (hB : B ≤ w.heap.size) (ho : w.ownsRow B 39 4 v n xs) (hg : ((w.alloc o1).alloc o2).grownBy w1 v.ownBlock) : Below B W w1 :=
  ((hb.alloc hB o1).alloc (by simp; omega) o2).grown hg (by simp; omega) (fun k hk => (ho.lt k hk).1)

theorem voters_no (f : Nat → Srv) (k : Nat) (h : (f k).non = true) : votersOf (seg f 0 (k + 1)) = votersOf (seg f 0 k) ∧ nonsOf (seg f 0 (k + 1)) = nonsOf (seg f 0 k) ++ [f k] := by
  unfold votersOf nonsOf; rw [seg_succ]; simp [List.filter_append, h]
theorem voters_yes (f : Nat → Srv) (k : Nat) (h : (f k).non = false) : votersOf (seg f 0 (k + 1)) = votersOf (seg f 0 k) ++ [f k] ∧ nonsOf (seg f 0 (k + 1)) = nonsOf (seg f 0 k) := by
  unfold votersOf nonsOf; rw [seg_succ]; simp [List.filter_append, h]

set_option maxHeartbeats 4000000 in
set_option maxRecDepth 100000 in
theorem split_own (g n c : Nat) (f : Nat → Srv) (w : World) (hn : n ≤ 1048576) (ho : Own 39 w g n f) :
    Calls Tryd.prog 18 #[.slice (some ⟨g, 0, none⟩) n c] w fun e w' => ∃ v1 v2, e = .returned (.tuple #[v1, v2]) ∧ OwnL w.heap.size w' v1 (votersOf (seg f 0 n)) ∧ OwnL w.heap.size w' v2 (nonsOf (seg f 0 n)) ∧ Below w.heap.size w w' := by
  obtain ⟨i0, hi, hz0, hz1, hz2⟩ := info_parts Tryd.info39
  have hg := ho.lt
  go_enter Tryd.func18, Tryd.ntmps18
  go_wp2
  go_loopw [2, 3, 5, 8] (fun v1 v2 _ vi wr => ∃ k : Nat, k ≤ n ∧ vi = .int .i64 k ∧ OwnL w.heap.size wr v1 (votersOf (seg f 0 k)) ∧ OwnL w.heap.size wr v2 (nonsOf (seg f 0 k)) ∧ Disj v1 v2 ∧ Below w.heap.size w wr) (fun _ _ _ vi _ => n - (intOf vi).toNat)
  case atStart => exact ⟨0, Nat.zero_le _, rfl, OwnL.nil _ _, OwnL.nil _ _, (fun b h => by simp [Value.ownBlock] at h), Below.refl _ _⟩
  case round =>
    obtain ⟨k, hk, rfl, h1, h2, hne, hbel⟩ := hrel
    by_cases hlt : k < n
    · obtain ⟨p0, p1, p2, p3⟩ := (ho.below hbel hg).cells (i := k) hlt
      generalize hx : f k = x at p0 p1 p2 p3
      have HX : Hid (f k = x) := hx
      clear hx
      have hsz := hbel.size
      have lv : (votersOf (seg f 0 k)).length ≤ k := by have := List.length_filter_le (fun x : Srv => !x.non) (seg f 0 k); rw [seg_length] at this; exact this
      have ln : (nonsOf (seg f 0 k)).length ≤ k := by have := List.length_filter_le (fun x : Srv => x.non) (seg f 0 k); rw [seg_length] at this; exact this
      cases hnon : x.non
      · rw [hnon] at p3
        have hnews := cells_four_new (wr.alloc (.cells #[.string x.id, .string x.addr, .string x.api, .bool x.non] 39)) x 39
        rw [hnon] at hnews
        simp only [World.size_alloc] at hnews
        go_wp2_with (at_builtin; refine wpList_append_own_at _ rfl _ _ 28 rfl w.heap.size 39 i0 _ 4 56 Tryd.underlying28 hi hz0 hz1 hz2 rfl (by decide) _ _ _ rfl ((h1.alloc _).alloc _) ⟨wr.heap.size + 1, 0, none⟩ 1 1 (cells4 x) rfl rfl ?c1 (cells4_one x) ?c3 ?c4 ?c5 ?_)
        case c1 => exact hnews
        case c3 => unfold maxLen; omega
        case c4 => omega
        case c5 => simp; omega
        intro v' w1 hown' hgrow _ hat
        have hb1 := grown_two hbel (by omega) h1 hgrow
        have hk2 : OwnL w.heap.size w1 u3 (nonsOf (seg f 0 k)) := World.ownsRow.kept ((h2.alloc _).alloc _) hgrow hne.keep
        have hd := hne.next h2 (H := wr.heap.size + 2) (by omega) (by simpa using hat)
        clear hgrow p0 p1 p2 p3 hnews h1 h2 hat hne
        go_wp2
        go_roundw
        case rel =>
          have hv := voters_yes f k (by rw [HX.out]; exact hnon)
          rw [HX.out] at hv
          refine ⟨k + 1, by omega, by go_num, ?_, by rw [hv.2]; exact hk2, hd, hb1⟩
          rw [hv.1]
          unfold OwnL
          rw [flat4_snoc, List.length_append, List.length_singleton]
          exact hown'
        case measure => simp [intOf]; omega
      · rw [hnon] at p3
        have hnews := cells_four_new (wr.alloc (.cells #[.string x.id, .string x.addr, .string x.api, .bool x.non] 39)) x 39
        rw [hnon] at hnews
        simp only [World.size_alloc] at hnews
        go_wp2_with (at_builtin; refine wpList_append_own_at _ rfl _ _ 28 rfl w.heap.size 39 i0 _ 4 56 Tryd.underlying28 hi hz0 hz1 hz2 rfl (by decide) _ _ _ rfl ((h2.alloc _).alloc _) ⟨wr.heap.size + 1, 0, none⟩ 1 1 (cells4 x) rfl rfl ?d1 (cells4_one x) ?d3 ?d4 ?d5 ?_)
        case d1 => exact hnews
        case d3 => unfold maxLen; omega
        case d4 => omega
        case d5 => simp; omega
        intro v' w1 hown' hgrow _ hat
        have hb1 := grown_two hbel (by omega) h2 hgrow
        have hk1 : OwnL w.heap.size w1 u2 (votersOf (seg f 0 k)) := World.ownsRow.kept ((h1.alloc _).alloc _) hgrow hne.symm.keep
        have hd := (hne.symm.next h1 (H := wr.heap.size + 2) (by omega) (by simpa using hat)).symm
        clear hgrow p0 p1 p2 p3 hnews h1 h2 hat hne
        go_wp2
        go_roundw
        case rel =>
          have hv := voters_no f k (by rw [HX.out]; exact hnon)
          rw [HX.out] at hv
          refine ⟨k + 1, by omega, by go_num, by rw [hv.1]; exact hk1, ?_, hd, hb1⟩
          rw [hv.2]
          unfold OwnL
          rw [flat4_snoc, List.length_append, List.length_singleton]
          exact hown'
        case measure => simp [intOf]; omega
    · go_wp2
      go_ret2
      have e1 : k = n := by omega
      subst e1
      exact ⟨_, _, rfl, h1, h2, hbel⟩

theorem split_nil (f : Nat → Srv) (c : Nat) (w : World) :
    Calls Tryd.prog 18 #[.slice none 0 c] w fun e w' => ∃ v1 v2, e = .returned (.tuple #[v1, v2]) ∧ OwnL w.heap.size w' v1 (votersOf (seg f 0 0)) ∧ OwnL w.heap.size w' v2 (nonsOf (seg f 0 0)) ∧ Below w.heap.size w w' := by
  go_enter Tryd.func18, Tryd.ntmps18
  go_wp2
  refine wp_loop_rounds 1 ?_
  rw [rounds_succ]
  go_wp2
  go_ret2
  exact ⟨_, _, rfl, OwnL.nil _ _, OwnL.nil _ _, Below.refl _ _⟩

theorem split_any (n c : Nat) (a : Option Addr) (f : Nat → Srv) (w : World) (hn : n ≤ 1048576) (ho : SrvS w a n f) :
    Calls Tryd.prog 18 #[.slice a n c] w fun e w' => ∃ v1 v2, e = .returned (.tuple #[v1, v2]) ∧ OwnL w.heap.size w' v1 (votersOf (seg f 0 n)) ∧ OwnL w.heap.size w' v2 (nonsOf (seg f 0 n)) ∧ Below w.heap.size w w' := by
  rcases ho with ⟨rfl, rfl⟩ | ⟨g, rfl, ho⟩
  · exact split_nil f c w
  · exact split_own g n c f w hn ho

def encMembers (l : List Srv) : List UInt8 := encList (votersOf l) ++ if (nonsOf l).length = 0 then [] else encList (nonsOf l)

theorem OwnL.below {B B' : Nat} {w w' : World} {v : Value} {l : List Srv} (h : OwnL B w v l) (hb : Below B' w w') (hB : w.heap.size ≤ B') : OwnL B w' v l := by
  refine ⟨h.1, ?_⟩
  rcases h.2 with h0 | ⟨g, cap, cur, hv, hg, hh, r⟩
  · exact Or.inl h0
  · exact Or.inr ⟨g, cap, cur, hv, hg, by rw [hb.block g (Nat.lt_of_lt_of_le (Array.getElem?_eq_some_iff.1 hh).1 hB)]; exact hh, r⟩

theorem OwnB.nil (B : Nat) (w : World) : OwnB B w (.slice none 0 0) [] := World.ownsRow_nil _ _ _ _

theorem lv_le (f : Nat → Srv) (n : Nat) : (votersOf (seg f 0 n)).length ≤ n := by have := List.length_filter_le (fun x : Srv => !x.non) (seg f 0 n); rw [seg_length] at this; exact this
theorem ln_le (f : Nat → Srv) (n : Nat) : (nonsOf (seg f 0 n)).length ≤ n := by have := List.length_filter_le (fun x : Srv => x.non) (seg f 0 n); rw [seg_length] at this; exact this

set_option maxHeartbeats 1000000 in
theorem members_any (n c : Nat) (a : Option Addr) (f : Nat → Srv) (w : World) (hn : n ≤ 1048576) (ho : SrvS w a n f) (hlim : (encMembers (seg f 0 n)).length + 100 ≤ 140737488355328) :
    Calls Tryd.prog 8 #[.slice none 0 0, .slice a n c] w fun e w' => ∃ v', e = .returned v' ∧ OwnB w.heap.size w' v' (encMembers (seg f 0 n)) ∧ Below w.heap.size w w' := by
  have HL : Hid ((encMembers (seg f 0 n)).length + 100 ≤ 140737488355328) := hlim
  clear hlim
  go_enter Tryd.func8, Tryd.ntmps8
  go_wp2_with fail
  refine (split_any n c a f _ hn ho).mono ?_
  rintro e w1 ⟨v1, v2, rfl, h1, h2, hbel⟩
  obtain ⟨a1, c1, hv1, s1⟩ := h1.slice
  obtain ⟨a2, c2, hv2, s2⟩ := h2.slice
  rw [hv1, hv2]
  have hsz := hbel.size
  have lv := lv_le f n
  have ln := ln_le f n
  go_wp2_with fail
  refine (servers_any w1.heap.size _ c1 a1 (nth (votersOf (seg f 0 n))) (.slice none 0 0) [] _ (OwnB.nil _ _) (Nat.le_refl _) (by omega) s1 ?_).mono ?_
  · have h := HL.out
    unfold encMembers at h
    rw [seg_nth]
    simp only [List.length_append, List.nil_append] at h ⊢
    omega
  rintro e w2 ⟨v3, rfl, hown, hfr⟩
  rw [seg_nth, List.nil_append] at hown
  have hbel2 : Below w.heap.size w w2 := hbel.trans (hfr.bel.mono hsz)
  have h2' := h2.below hfr.bel (Nat.le_refl _)
  have s2' : SrvS w2 a2 (nonsOf (seg f 0 n)).length (nth (nonsOf (seg f 0 n))) := by
    obtain ⟨a3, c3, hv3, s3⟩ := h2'.slice
    rw [hv2] at hv3
    simp at hv3
    rw [hv3.1]; exact s3
  have hs2 : w1.heap.size ≤ w2.heap.size := hfr.bel.size
  clear h1 h2 s1 s2 hfr h2'
  by_cases h0 : (nonsOf (seg f 0 n)).length = 0
  · have h0' : ¬ (0 : Int) < ((nonsOf (seg f 0 n)).length : Int) := by omega
    have H0 : Hid ((nonsOf (seg f 0 n)).length = 0) := h0
    clear h0
    go_wp2
    go_ret
    refine ⟨_, rfl, ?_, hbel2⟩
    unfold encMembers
    rw [if_pos H0.out, List.append_nil]
    refine ⟨hown.1, ?_⟩
    rcases hown.2 with h | ⟨g, cap, cur, hv, hg, r⟩
    · exact Or.inl h
    · exact Or.inr ⟨g, cap, cur, hv, by omega, r⟩
  · have h0' : (0 : Int) < ((nonsOf (seg f 0 n)).length : Int) := by omega
    have H0 : Hid (¬ (nonsOf (seg f 0 n)).length = 0) := h0
    clear h0
    go_wp2_with fail
    refine (servers_any w1.heap.size _ c2 a2 (nth (nonsOf (seg f 0 n))) v3 (encList (votersOf (seg f 0 n))) _ hown hs2 (by omega) s2' ?_).mono ?_
    · have h := HL.out
      unfold encMembers at h
      rw [if_neg H0.out] at h
      rw [seg_nth]
      exact h
    rintro e w3 ⟨v4, rfl, hown4, hfr4⟩
    rw [seg_nth] at hown4
    go_wp2
    go_ret
    refine ⟨_, rfl, ?_, hbel2.trans (hfr4.bel.mono hsz)⟩
    unfold encMembers
    rw [if_neg H0.out]
    refine ⟨hown4.1, ?_⟩
    rcases hown4.2 with h | ⟨g, cap, cur, hv, hg, r⟩
    · exact Or.inl h
    · exact Or.inr ⟨g, cap, cur, hv, by omega, r⟩
end Go.Proofs.Qxb6613060aDoor
