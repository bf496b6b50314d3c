/-
  SEAT b6613060aD: the walk of ReadMembers.
-/
import Derived.Test.Qxb6613060aDoorRead
namespace Go.Proofs.Qxb6613060aDoor
open Go.ChangeShapes Go.WideShapes Go.ChangeAt Go.RowKit
set_option linter.unusedVariables false

/-! ### The plain reader of members -/
def asNon (x : Srv) : Srv := ⟨x.id, x.addr, x.api, true⟩

/-- only the first list is taken -/
def rmFirst (s : DSt) : Prop := (rsv s).1.2 = false ∨ (rsv s).2.1 = []
/-- the second list will not do -/
def rmBad (s : DSt) : Prop := (rsv (rsv s).2).1.2 = false ∨ (rsv (rsv s).2).1.1.length = 0 ∨ (rsv (rsv s).2).2.1 ≠ []

def rmAll (s : DSt) : List Srv := (rsv s).1.1 ++ (rsv (rsv s).2).1.1.map asNon

/-- what ReadMembers answers: the flag, and the n servers f -/
def RM (s : DSt) (ok : Bool) (n : Nat) (f : Nat → Srv) : Prop :=
  (rmFirst s ∧ ok = (rsv s).1.2 ∧ seg f 0 n = (rsv s).1.1) ∨
  (¬ rmFirst s ∧ rmBad s ∧ ok = false) ∨
  (¬ rmFirst s ∧ ¬ rmBad s ∧ ok = true ∧ n = (rmAll s).length ∧ Stb (nth (rmAll s)) f 0 n ∧ SortedOn f 0 n)

def GotM (s : DSt) (b : Nat) (w : World) (e : Ending) (w' : World) : Prop :=
  ∃ a n c ok f, e = .returned (.tuple #[.slice a n c, .bool ok]) ∧ SrvS w' a n f ∧ RM s ok n f ∧ n ≤ 1048576 ∧ w.grownBy w' (some b)

theorem dlist_len : ∀ (n : Nat) (s : DSt) (acc : List Srv), (dlist n s acc).1.length ≤ acc.length + n
  | 0, s, acc => by simp [dlist]
  | n + 1, s, acc => by
    unfold dlist
    by_cases h : s.2 = true
    · rw [if_pos h]
      have := dlist_len n (dsrv s).2 (acc ++ [(dsrv s).1])
      simp at this
      omega
    · rw [if_neg h]; simp

theorem rsv_len (s : DSt) : (rsv s).1.1.length ≤ 5461 := by
  unfold rsv
  by_cases h : (dct s).2.2 = true ∧ (dct s).1 ≤ 5461
  · rw [if_pos h]
    have := dlist_len (dct s).1 (dct s).2 []
    simp at this ⊢
    omega
  · rw [if_neg h]; simp

theorem Dec.rest {w : World} {b g : Nat} {t : TypeId} {x : Value} {s : DSt} (h : Dec w b g t x s) : ∃ ad cap, w.cell? ⟨b, 0, none⟩ = some (.slice ad s.1.length cap) := by
  obtain ⟨ad, cap, h0, _⟩ := h.cells
  exact ⟨ad, cap, h0⟩

theorem grown_row {w w1 w' : World} {b : Nat} {row : Option Nat} (hg : w.grownBy w1 (some b)) (hk : w1.grownBy w' row) (hr : ∀ k, row = some k → w.heap.size ≤ k) : w.grownBy w' (some b) :=
  ⟨hk.os.trans hg.os, hk.tape.trans hg.tape, hk.output.trans hg.output, Nat.le_trans hg.size hk.size, fun k hkl hne => by
    rw [hk.block k (Nat.lt_of_lt_of_le hkl hg.size) (fun e => by have := hr k e.symm; omega)]
    exact hg.block k hkl hne⟩

theorem take_snoc' (l : List Srv) (k : Nat) (h : k < l.length) : (l.take (k + 1)).map asNon = (l.take k).map asNon ++ [asNon (nth l k)] := by
  have e : nth l k = l[k] := by simp [nth, h]
  rw [List.take_succ_eq_append_getElem h, List.map_append, e]
  rfl

theorem OwnL.mono {B B' : Nat} {w : World} {v : Value} {l : List Srv} (h : OwnL B w v l) (hB : B' ≤ B) : OwnL B' w v l := by
  refine ⟨h.1, ?_⟩
  rcases h.2 with h0 | ⟨g, cap, cur, hv, hg, r⟩
  · exact Or.inl h0
  · exact Or.inr ⟨g, cap, cur, hv, by omega, r⟩

theorem OwnL.row {B : Nat} {w : World} {a : Option Addr} {n c : Nat} {l : List Srv} (h : OwnL B w (.slice a n c) l) (hl : 0 < l.length) : ∃ g, a = some ⟨g, 0, none⟩ ∧ Own 39 w g l.length (nth l) := by
  obtain ⟨a', c', e, s⟩ := h.slice
  simp at e
  rw [e.1]
  exact s.pos hl

set_option maxHeartbeats 4000000 in
set_option maxRecDepth 100000 in
theorem read_members (b g : Nat) (t : TypeId) (x : Value) (s : DSt) (w : World) (hD : Dec w b g t x s) :
    Calls Tryd.prog 10 #[.pointer (some ⟨b, 0, none⟩)] w (GotM s b w) := by
  obtain ⟨i0, hi, hz0, hz1, hz2⟩ := info_parts Tryd.info39
  have hbw : b < w.heap.size := hD.lt
  have hl1 := rsv_len s
  have hl2 := rsv_len (rsv s).2
  go_enter Tryd.func10, Tryd.ntmps10
  go_wp2_with fail
  refine (read_servers b g t x s _ hD).mono ?_
  rintro e w1 ⟨v1, rfl, hown1, hD1, hg1⟩
  clear hD
  obtain ⟨⟨⟨l1, ok1⟩, s1⟩, hs1⟩ : ∃ p, p = rsv s := ⟨_, rfl⟩
  have HS1 : Hid (((l1, ok1), s1) = rsv s) := hs1
  rw [← hs1] at hown1 hD1 hl1 hl2 ⊢
  clear hs1
  simp only at hown1 hD1 hl1 hl2 ⊢
  obtain ⟨a1, c1, hv1, sl1⟩ := hown1.slice
  cases ok1
  · rw [hv1]
    go_wp2
    go_ret2
    exact ⟨a1, _, c1, false, nth l1, rfl, sl1, Or.inl ⟨Or.inl (by rw [← HS1.out]), by rw [← HS1.out], by rw [← HS1.out]; exact seg_nth l1⟩, by omega, hg1⟩
  · obtain ⟨ad1, cap1, hr1⟩ := hD1.rest
    by_cases he1 : s1.1.length = 0
    · rw [he1] at hr1
      rw [hv1]
      have HE : Hid (s1.1.length = 0) := he1
      clear he1
      go_wp2_with (go_at_call 20; refine (rest_any b _ _ _ _ hr1).mono ?_; rintro e w' ⟨rfl, rfl⟩)
      go_ret2
      exact ⟨a1, _, c1, true, nth l1, rfl, sl1, Or.inl ⟨Or.inr (by rw [← HS1.out]; exact List.length_eq_zero_iff.1 HE.out), by rw [← HS1.out], by rw [← HS1.out]; exact seg_nth l1⟩, by omega, hg1⟩
    · have HE : Hid (¬ s1.1.length = 0) := he1
      have he1' : ((s1.1.length : Int) == 0) = false := beq_eq_false_iff_ne.2 (by omega)
      have NF : Hid (¬ rmFirst s) := fun h => by
        unfold rmFirst at h
        rw [← HS1.out] at h
        rcases h with h | h
        · cases h
        · exact HE.out (by rw [h]; rfl)
      clear he1
      go_wp2_with (go_at_call 20; refine (rest_any b _ _ _ _ hr1).mono ?_; rintro e w' ⟨rfl, rfl⟩)
      clear he1' hr1
      refine (read_servers b g t x s1 _ hD1).mono ?_
      rintro e w2 ⟨v2, rfl, hown2, hD2, hg2⟩
      have hsz1 := hg1.size
      have hown1' : OwnL w.heap.size w2 v1 l1 := hown1.grown hg2 hbw
      have hdis : Disj v1 v2 := fun k h1 h2 => by
        have a1 := (hown1.lt k h1).2
        have a2 := (hown2.lt k h2).1
        omega
      have hown2' := hown2.mono hsz1
      have hg12 := World.grownBy.trans' hg1 hg2
      clear hD1 hg1 hg2 hown1 hown2 sl1
      obtain ⟨⟨⟨l2, ok2⟩, s2⟩, hs2⟩ : ∃ p, p = rsv s1 := ⟨_, rfl⟩
      have HS2 : Hid (((l2, ok2), s2) = rsv (rsv s).2) := by show _ = _; rw [← HS1.out]; exact hs2
      rw [← hs2] at hown2' hD2 hl2 ⊢
      clear hs2
      simp only at hown2' hD2 hl2 ⊢
      obtain ⟨a2, c2, hv2, sl2⟩ := hown2'.slice
      have bad : ∀ (W : World), rmBad s → w.grownBy W (some b) → GotM s b w (.returned (.tuple #[.slice none 0 0, .bool false])) W := fun W hb hg =>
        ⟨none, 0, 0, false, nth [], rfl, Or.inl ⟨rfl, rfl⟩, Or.inr (Or.inl ⟨NF.out, hb, rfl⟩), by omega, hg⟩
      have BAD : Hid (∀ (W : World), rmBad s → w.grownBy W (some b) → GotM s b w (.returned (.tuple #[.slice none 0 0, .bool false])) W) := bad
      clear bad
      cases ok2
      · rw [hv2]
        go_wp2
        go_ret2
        exact BAD.out _ (Or.inl (by rw [← HS2.out])) hg12
      · by_cases h20 : l2.length = 0
        · rw [hv2, h20]
          have H20 : Hid (l2.length = 0) := h20
          clear h20
          go_wp2
          go_ret2
          exact BAD.out _ (Or.inr (Or.inl (by rw [← HS2.out]; exact H20.out))) hg12
        · have h20' : ((l2.length : Int) == 0) = false := beq_eq_false_iff_ne.2 (by omega)
          have H20 : Hid (¬ l2.length = 0) := h20
          have h20p : 0 < l2.length := by omega
          clear h20
          obtain ⟨ad2, cap2, hr2⟩ := hD2.rest
          by_cases he2 : s2.1.length = 0
          · have HE2 : Hid (s2.1.length = 0) := he2
            rw [he2] at hr2
            have NB : Hid (¬ rmBad s) := fun h => by
              unfold rmBad at h
              rw [← HS2.out] at h
              rcases h with h | h | h
              · cases h
              · exact H20.out h
              · exact h (List.length_eq_zero_iff.1 HE2.out)
            clear he2
            rw [hv2]
            go_wp2_with (go_at_call 20; refine (rest_any b _ _ _ _ hr2).mono ?_; rintro e w' ⟨rfl, rfl⟩)
            clear hr2 h20' hD2
            subst hv1
            subst hv2
            go_loopw [4, 8, 44] (fun vm _ vk wr => ∃ k : Nat, k ≤ l2.length ∧ vk = .int .i64 k ∧ OwnL w.heap.size wr vm (l1 ++ (l2.take k).map asNon) ∧ OwnL w.heap.size wr (.slice a2 l2.length c2) l2 ∧ Disj vm (.slice a2 l2.length c2) ∧ w.grownBy wr (some b)) (fun _ _ vk _ => l2.length - (intOf vk).toNat)
            case atStart => exact ⟨0, Nat.zero_le _, rfl, by simpa using hown1', hown2', hdis, hg12⟩
            case round =>
              clear hown1' hown2' hdis hg12 sl2
              obtain ⟨k, hk, rfl, h1, h2, hdis, hgr⟩ := hrel
              have hsz := hgr.size
              by_cases hlt : k < l2.length
              · obtain ⟨g2, ha2, hO⟩ := h2.row h20p
                subst ha2
                obtain ⟨p0, p1, p2, p3⟩ := hO.cells (i := k) hlt
                generalize hy : nth l2 k = y at p0 p1 p2 p3
                have HY : Hid (nth l2 k = y) := hy
                clear hy hO
                have lm : (l1 ++ (l2.take k).map asNon).length ≤ 5461 + k := by simp; omega
                have hnews := cells_four_new (wr.alloc (.cells #[.string y.id, .string y.addr, .string y.api, .bool true] 39)) (asNon y) 39
                simp only [World.size_alloc, asNon] at hnews
                go_wp2_with (at_builtin; refine wpList_append_own_at _ rfl _ _ 28 rfl w.heap.size 39 i0 _ 4 56 Tryd.underlying28 hi hz0 hz1 hz2 rfl (by decide) _ _ _ rfl ((h1.alloc _).alloc _) ⟨wr.heap.size + 1, 0, none⟩ 1 1 (cells4 (asNon y)) rfl rfl ?c1 (cells4_one (asNon y)) ?c3 ?c4 ?c5 ?_)
                case c1 => exact hnews
                case c3 => unfold maxLen; omega
                case c4 => omega
                case c5 => simp; omega
                intro v' w3 hown3 hgrow _ hat
                have hd := hdis.next h2 (H := wr.heap.size + 2) (by omega) (by simpa using hat)
                have hk2 := World.ownsRow.kept ((h2.alloc (.cells #[.string y.id, .string y.addr, .string y.api, .bool true] 39)).alloc (.cells #[.string y.id, .string y.addr, .string y.api, .bool true] 39)) hgrow hdis.keep
                have hg3 : w.grownBy w3 (some b) := grown_row (World.grownBy.trans' (World.grownBy.trans' hgr (World.grownBy_alloc wr (.cells #[.string y.id, .string y.addr, .string y.api, .bool true] 39) _)) (World.grownBy_alloc _ (.cells #[.string y.id, .string y.addr, .string y.api, .bool true] 39) _)) hgrow (fun k hk => (h1.lt k hk).1)
                clear hgrow p0 p1 p2 p3 hnews h1 h2 hat hdis
                go_wp2
                go_roundw
                case rel =>
                  refine ⟨k + 1, by omega, by go_num, ?_, hk2, hd, hg3⟩
                  rw [take_snoc' l2 k hlt, HY.out, ← List.append_assoc]
                  unfold OwnL
                  rw [flat4_snoc, List.length_append, List.length_singleton, show (l1 ++ List.map asNon (List.take k l2)).length = l1.length + k by simp; omega, List.map_take]
                  exact hown3
                case measure => simp [intOf]; omega
              · have hkk : k = l2.length := by omega
                subst hkk
                rw [List.take_length] at h1
                have hAll : rmAll s = l1 ++ l2.map asNon := by unfold rmAll; rw [← HS2.out, ← HS1.out]
                rw [← hAll] at h1
                have hlen : (rmAll s).length = l1.length + l2.length := by rw [hAll]; simp
                have HAL : Hid ((rmAll s).length = l1.length + l2.length) := hlen
                have lN : (rmAll s).length ≤ 1048576 := by omega
                have lp : 0 < (rmAll s).length := by omega
                clear hlen hAll
                obtain ⟨am, cm, hvm, slm⟩ := h1.slice
                obtain ⟨gm, ham, hOm⟩ := slm.pos lp
                subst ham
                have hgm : w.heap.size ≤ gm := by
                  have := (h1.lt gm (by rw [hvm]; rfl)).1
                  exact this
                rw [hvm]
                clear h1 slm h2 hdis
                go_wp2_with fail
                refine (sortStable_any gm _ cm (nth (rmAll s)) _ lN hOm).mono ?_
                rintro e w4 ⟨rfl, ⟨f4, hO4, hst, hso⟩, hg4⟩
                go_wp2
                go_ret2
                exact ⟨_, _, cm, true, f4, rfl, Or.inr ⟨gm, rfl, hO4⟩, Or.inr (Or.inr ⟨NF.out, NB.out, rfl, rfl, hst, hso⟩), lN, grown_row hgr hg4 (fun k hk => by simp at hk; omega)⟩
          · have he2' : ((s2.1.length : Int) != 0) = true := by simp; intro h; exact he2 (by rw [h]; rfl)
            have HE2 : Hid (¬ s2.1.length = 0) := he2
            clear he2
            rw [hv2]
            go_wp2_with (go_at_call 20; refine (rest_any b _ _ _ _ hr2).mono ?_; rintro e w' ⟨rfl, rfl⟩)
            go_ret2
            exact BAD.out _ (Or.inr (Or.inr (by rw [← HS2.out]; intro h; exact HE2.out (by rw [h]; rfl)))) hg12
end Go.Proofs.Qxb6613060aDoor
