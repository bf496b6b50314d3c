/-
  SEAT b6613060aD: the walk of zzExpectedRead.
-/
import Derived.Test.Qxb6613060aDoorClone
import Derived.Test.Qxb6613060aDoorSame
import Derived.Test.Qxb6613060aDoorKeys
import Derived.Deep.RegionHeld3
import Derived.BigQuiet
namespace Go.Proofs.Qxb6613060aDoor
open Go.ChangeShapes Go.WideShapes Go.ChangeAt Go.RowKit
set_option linter.unusedVariables false

theorem keyLess_klt (x y : Srv) : keyLess x y = true ↔ klt x y := by
  unfold keyLess klt
  by_cases h : x.key = y.key
  · rw [if_pos h]
    constructor
    · intro k; simp at k; exact Or.inr ⟨h, k.1, k.2⟩
    · rintro (k | ⟨_, a, b⟩)
      · exact absurd h (ne_of_lt k)
      · simp [a, b]
  · rw [if_neg h]
    constructor
    · intro k; exact Or.inl (of_decide_eq_true (p := Lib.compareBytes x.key y.key < 0) k)
    · rintro (k | ⟨e, _, _⟩)
      · exact decide_eq_true (p := Lib.compareBytes x.key y.key < 0) k
      · exact absurd e h

/-- what zzExpectedRead answers -/
def Exp (f t : Nat → Srv) (n : Nat) : Prop := ((∀ i, i < n → (f i).non = false) ∧ ∀ i, i < n → t i = f i) ∨ ((∃ i, i < n ∧ (f i).non = true) ∧ StbK f t n ∧ SortedK t n)

def GotX (f : Nat → Srv) (n : Nat) (w : World) (e : Ending) (w' : World) : Prop := ∃ a t, e = .returned (.slice a n n) ∧ SrvS w' a n t ∧ Exp f t n ∧ Below w.heap.size w w'

/-- the box of a server -/
def Box4 (w : World) (b : Nat) (x : Srv) : Prop :=
  w.cell? ⟨b, 0, none⟩ = some (.string x.id) ∧ w.cell? ⟨b, 1, none⟩ = some (.string x.addr) ∧ w.cell? ⟨b, 2, none⟩ = some (.string x.api) ∧ w.cell? ⟨b, 3, none⟩ = some (.bool x.non)

theorem Box4.of_block {w w' : World} {b : Nat} {x : Srv} (h : Box4 w b x) (hb : w'.heap[b]? = w.heap[b]?) : Box4 w' b x :=
  ⟨(World.cell?_of_block (w := w) (a := ⟨b, 0, none⟩) hb).trans h.1, (World.cell?_of_block (w := w) (a := ⟨b, 1, none⟩) hb).trans h.2.1, (World.cell?_of_block (w := w) (a := ⟨b, 2, none⟩) hb).trans h.2.2.1, (World.cell?_of_block (w := w) (a := ⟨b, 3, none⟩) hb).trans h.2.2.2⟩

theorem Box4.made (w : World) (x : Srv) (t : TypeId) : Box4 (w.alloc (.cells #[.string x.id, .string x.addr, .string x.api, .bool x.non] t)) w.heap.size x := by
  refine ⟨?_, ?_, ?_, ?_⟩ <;> (rw [cell_of_row _ _ _ _ _ _ (heap_alloc_new _ _)]; rfl)

theorem set4_other (w : World) (g i b : Nat) (h : b ≠ g) (u0 u1 u2 u3 : Value) : ((((w.setCell ⟨g, i, none⟩ u0).setCell ⟨g, i + 1, none⟩ u1).setCell ⟨g, i + 2, none⟩ u2).setCell ⟨g, i + 3, none⟩ u3).heap[b]? = w.heap[b]? := by
  rw [heap_setCell_other _ _ _ _ h, heap_setCell_other _ _ _ _ h, heap_setCell_other _ _ _ _ h, heap_setCell_other _ _ _ _ h]

theorem set4_size (w : World) (g i : Nat) (u0 u1 u2 u3 : Value) : ((((w.setCell ⟨g, i, none⟩ u0).setCell ⟨g, i + 1, none⟩ u1).setCell ⟨g, i + 2, none⟩ u2).setCell ⟨g, i + 3, none⟩ u3).heap.size = w.heap.size := by
  simp [World.setCell]

/-- the array as it lies (M) and as it would lie with x put in at place j (F) -/
structure Shift (f : Nat → Srv) (n j i : Nat) (x : Srv) (M F : Nat → Srv) : Prop where
  off : ∀ t, t < n → t ≠ j → M t = F t
  at_ : F j = x
  stb : StbK f F n
  ins : InsK F j i

theorem Shift.step {f M F : Nat → Srv} {n y i : Nat} {x : Srv} (h : Shift f n (y + 1) i x M F) (hn : y + 2 ≤ n) (hlt : klt x (M y)) : Shift f n y i x (upd M (y + 1) (M y)) (rot F y (y + 1) (y + 2)) := by
  have eM : M y = F y := h.off y (by omega) (by omega)
  have hk : klt (F (y + 1)) (F y) := by rw [h.at_, ← eM]; exact hlt
  refine ⟨fun t t1 t2 => ?_, by rw [rot1_at]; exact h.at_, h.stb.trans (StbK_rot1 hn hk), h.ins.step hk⟩
  unfold upd
  by_cases e : t = y + 1
  · subst e; rw [if_pos rfl, rot1_next, eM]
  · rw [if_neg e, rot1_off t2 e]; exact h.off t t1 e

theorem Shift.done {f M F : Nat → Srv} {n j i : Nat} {x : Srv} (h : Shift f n j i x M F) (hend : j = 0 ∨ ¬ klt x (M (j - 1))) (hj : j ≤ i) (hi : i < n) : StbK f (upd M j x) n ∧ SortedK (upd M j x) (i + 1) := by
  have e : ∀ t, t < n → upd M j x t = F t := fun t ht => by
    unfold upd
    by_cases e : t = j
    · subst e; rw [if_pos rfl, h.at_]
    · rw [if_neg e]; exact h.off t ht e
  refine ⟨h.stb.congr e, fun p q h1 h2 => ?_⟩
  rw [e p (by omega), e q (by omega)]
  refine h.ins.done ?_ p q h1 h2
  rcases hend with h0 | h0
  · exact Or.inl h0
  · by_cases j0 : j = 0
    · exact Or.inl j0
    · refine Or.inr ?_
      rw [← h.off (j - 1) (by omega) (by omega), h.at_]
      exact h0

set_option maxHeartbeats 4000000 in
set_option maxRecDepth 100000 in
theorem expect_any (B : Nat) (a : Option Addr) (n c : Nat) (f : Nat → Srv) (w : World) (hn : n ≤ 1048576) (hm : MemS B w a n f) : Calls Tryd.prog 13 #[.slice a n c] w (GotX f n w) := by
  go_enter Tryd.func13, Tryd.ntmps13
  go_wp2_with fail
  refine (servs_any B a n c f _ hn hm).mono ?_
  rintro e w1 ⟨a1, rfl, hs1, hb1⟩
  have hm1 : MemS B w1 a n f := by
    rcases hm with h | ⟨g, h1, h2, h3⟩
    · exact Or.inl h
    · exact Or.inr ⟨g, h1, h2, h3.below hb1 h3.lt⟩
  clear hm
  have hsl : SrvS w1 a1 n f := by
    rcases hs1 with h | ⟨g, h1, _, h2⟩
    · exact Or.inl h
    · exact Or.inr ⟨g, h1, h2⟩
  go_wp2
  go_loop [4, 5, 13] (fun vh _ vi => ∃ (k : Nat) (h : Bool), k ≤ n ∧ vi = .int .i64 k ∧ vh = .bool h ∧ Hid (h = true ↔ ∃ i, i < k ∧ (f i).non = true)) (fun _ _ vi => n - (intOf vi).toNat)
  case atStart => exact ⟨0, false, Nat.zero_le _, rfl, rfl, ⟨(fun h => by cases h), (fun ⟨i, h, _⟩ => by omega)⟩⟩
  case round =>
    obtain ⟨k, h, hk, rfl, rfl, HH⟩ := hrel
    by_cases hlt : k < n
    · have hrow : ∃ g, a = some ⟨g, 0, none⟩ ∧ Own 38 w1 g n f := by
        rcases hm1 with ⟨_, h0⟩ | ⟨g, h1, _, h2⟩
        · omega
        · exact ⟨g, h1, h2⟩
      obtain ⟨g, ha, ho⟩ := hrow
      subst ha
      obtain ⟨p0, p1, p2, p3⟩ := ho.cells (i := k) hlt
      cases hnon : (f k).non
      · rw [hnon] at p3
        go_wp2
        go_round
        case rel =>
          refine ⟨k + 1, h, by omega, by go_num, rfl, HH.out.trans ⟨fun ⟨i, h1, h2⟩ => ⟨i, by omega, h2⟩, fun ⟨i, h1, h2⟩ => ⟨i, ?_, h2⟩⟩⟩
          by_cases e : i = k
          · subst e; rw [hnon] at h2; cases h2
          · omega
        case measure => simp [intOf]; omega
      · rw [hnon] at p3
        go_wp2
        go_round
        case rel => exact ⟨k + 1, true, by omega, by go_num, rfl, ⟨fun _ => ⟨k, by omega, hnon⟩, fun _ => rfl⟩⟩
        case measure => simp [intOf]; omega
    · have ek : n = k := by omega
      subst ek
      cases h
      · go_wp2
        go_ret
        refine ⟨a1, f, rfl, hsl, Or.inl ⟨fun i hi => ?_, fun _ _ => rfl⟩, hb1⟩
        cases hf : (f i).non
        · rfl
        · exact absurd (HH.out.2 ⟨i, hi, hf⟩) (by simp)
      · go_wp2
        obtain ⟨i0, hi0, hf0⟩ := HH.out.1 (by first | rfl | trivial)
        have hex : ∃ i, i < n ∧ (f i).non = true := ⟨i0, hi0, hf0⟩
        have HEX : Hid (∃ i, i < n ∧ (f i).non = true) := hex
        have hrow : ∃ g, a1 = some ⟨g, 0, none⟩ ∧ w.heap.size ≤ g ∧ Own 39 w1 g n f := by
          rcases hs1 with ⟨_, h0⟩ | h1
          · omega
          · exact h1
        obtain ⟨g, ha1, hgB, ho⟩ := hrow
        have hnp : 0 < n := by omega
        clear hex HH hs1 hsl hm1 hi0 hf0 hlt hk
        subst ha1
        go_loopw [6, 7, 8] (fun vi _ _ wr => ∃ i : Nat, 1 ≤ i ∧ i ≤ n ∧ vi = .int .i64 i ∧ (∃ M, Own 39 wr g n M ∧ Hid (StbK f M n ∧ SortedK M i)) ∧ Below w.heap.size w wr) (fun vi _ _ _ => n - (intOf vi).toNat)
        case atStart => exact ⟨1, Nat.le_refl _, by omega, rfl, ⟨f, ho, StbK.refl _ _, fun p q h1 h2 => by omega⟩, hb1⟩
        case round =>
          clear ho hb1
          obtain ⟨i, h1i, hin, rfl, ⟨M, hM, HS⟩, hbel⟩ := hrel
          by_cases hlt : i < n
          · obtain ⟨p0, p1, p2, p3⟩ := hM.cells (i := i) hlt
            generalize hx : M i = x at p0 p1 p2 p3
            have HX : Hid (M i = x) := hx
            clear hx
            have hgs := hM.lt
            have hbB := hbel.size
            go_wp2
            have hBx := Box4.made wr x 39
            have hMa : Own 39 (wr.alloc (.cells #[.string x.id, .string x.addr, .string x.api, .bool x.non] 39)) g n M := hM.of_block (Below.heap_alloc _ _ _ hgs)
            have hba : Below w.heap.size w (wr.alloc (.cells #[.string x.id, .string x.addr, .string x.api, .bool x.non] 39)) := hbel.alloc hbB _
            have hbx : wr.heap.size < (wr.alloc (.cells #[.string x.id, .string x.addr, .string x.api, .bool x.non] 39)).heap.size := by simp
            have HSh : Hid (Shift f n i i x M M) := ⟨fun _ _ _ => rfl, HX.out, HS.out.1, InsK.start HS.out.2⟩
            clear p0 p1 p2 p3 hM hbel HX HS
            have hne : wr.heap.size ≠ g := by omega
            have hBbx : w.heap.size ≤ wr.heap.size := hbB
            revert hBx hMa hba hbx
            generalize (wr.alloc (.cells #[.string x.id, .string x.addr, .string x.api, .bool x.non] 39)) = w2
            intro hBx hMa hba hbx
            generalize wr.heap.size = bx at hBx hbx hne hBbx
            clear hgs hbB
            go_loopw [8] (fun vj wx => ∃ j : Nat, j ≤ i ∧ vj = .int .i64 j ∧ (∃ M F, Own 39 wx g n M ∧ Hid (Shift f n j i x M F)) ∧ Box4 wx bx x ∧ bx < wx.heap.size ∧ Below w.heap.size w wx) (fun vj _ => (intOf vj).toNat)
            case atStart => exact ⟨i, Nat.le_refl _, rfl, ⟨M, M, hMa, HSh⟩, hBx, hbx, hba⟩
            case round =>
              clear hBx hMa hba hbx HSh
              obtain ⟨j, hji, rfl, ⟨M2, F2, hM2, HSh⟩, hBx, hbx, hba⟩ := hrel
              by_cases hj : 0 < j
              · obtain ⟨y, hy⟩ : ∃ y, y + 1 = j := ⟨j - 1, by omega⟩
                have ey : (j : Int) - 1 = (y : Int) := by omega
                have HY : Hid (y + 1 = j) := hy
                have l1 : y < n := by omega
                have l2 : j < n := by omega
                have l3 : y < j := by omega
                obtain ⟨b0, b1, b2, b3⟩ := hBx
                obtain ⟨q0, q1, q2, q3⟩ := hM2.cells (i := y) l1
                generalize hz : M2 y = z at q0 q1 q2 q3
                have HZ : Hid (M2 y = z) := hz
                clear hz hy
                have hgw := hM2.lt
                have iy0 : (0 : Int) ≤ (y : Int) := by omega
                have iy1 : (y : Int) < (n : Int) := by omega
                have iw : IntKind.i64.wrap (y : Int) = (y : Int) := by rw [IntKind.wrap_i64]; omega
                go_wp2
                go_region_held3 (fun W => W.cell? ⟨bx, 0, none⟩ = some (.string x.id) ∧ W.cell? ⟨bx, 1, none⟩ = some (.string x.addr) ∧ W.cell? ⟨bx, 2, none⟩ = some (.string x.api) ∧ W.cell? ⟨bx, 3, none⟩ = some (.bool x.non) ∧ W.cell? ⟨g, y * 4, none⟩ = some (.string z.id) ∧ W.cell? ⟨g, y * 4 + 1, none⟩ = some (.string z.addr) ∧ W.cell? ⟨g, y * 4 + 2, none⟩ = some (.string z.api) ∧ W.cell? ⟨g, y * 4 + 3, none⟩ = some (.bool z.non)) (go_keep) ((go_at_call 24; refine (keyLess_any x z _).mono ?_; rintro e w3 ⟨rfl, hb3⟩; have hc1 : ∀ o, w3.cell? ⟨g, o, none⟩ = wr.cell? ⟨g, o, none⟩ := fun o => hb3.cell (p := ⟨g, o, none⟩) hgw; have hc2 : ∀ o, w3.cell? ⟨bx, o, none⟩ = wr.cell? ⟨bx, o, none⟩ := fun o => hb3.cell (p := ⟨bx, o, none⟩) hbx))
                have hM3 : Own 39 w3 g n M2 := Own.below (w := wr.drew) hM2 hb3 hgw
                have hBx3 : Box4 w3 bx x := Box4.of_block (w := wr) ⟨b0, b1, b2, b3⟩ (hb3.block bx hbx)
                have hba3 : Below w.heap.size w w3 := hba.drew.trans (hb3.mono hba.size)
                have hbx3 : bx < w3.heap.size := Nat.lt_of_lt_of_le hbx hb3.size
                clear b0 b1 b2 b3 q0 q1 q2 q3 hc1 hc2 hb3 hM2 hba hbx hgw
                cases hkl : keyLess x z
                · have HN : Hid (¬ klt x z) := fun h => by rw [(keyLess_klt x z).2 h] at hkl; cases hkl
                  clear hkl
                  obtain ⟨b0, b1, b2, b3⟩ := hBx3
                  obtain ⟨q0, q1, q2, q3⟩ := hM3.cells (i := j) l2
                  obtain ⟨z0, z1, z2, z3⟩ := hM3.room j
                  generalize M2 j = uu at q0 q1 q2 q3
                  go_wp2
                  clear b0 b1 b2 b3 q0 q1 q2 q3 z0 z1 z2 z3
                  go_roundw
                  case rel =>
                    have hy := HY.out
                    have D := HSh.out.done (Or.inr (by rw [← hy, Nat.add_sub_cancel, HZ.out]; exact HN.out)) hji hlt
                    exact ⟨i + 1, by omega, by omega, by go_num, ⟨_, hM3.set j x, D⟩, below_set4 hba3 hgB _ _ _ _⟩
                  case measure => simp [intOf]; omega
                · have HN : Hid (klt x z) := (keyLess_klt x z).1 hkl
                  clear hkl
                  obtain ⟨q0, q1, q2, q3⟩ := hM3.cells (i := j) l2
                  obtain ⟨r0, r1, r2, r3⟩ := hM3.cells (i := y) l1
                  rw [HZ.out] at r0 r1 r2 r3
                  obtain ⟨z0, z1, z2, z3⟩ := hM3.room j
                  generalize M2 j = uu at q0 q1 q2 q3
                  go_wp2
                  clear q0 q1 q2 q3 r0 r1 r2 r3 z0 z1 z2 z3
                  go_roundw
                  case rel =>
                    have hy := HY.out
                    subst hy
                    have hz := HZ.out
                    subst hz
                    exact ⟨y, by omega, rfl, ⟨_, _, hM3.set (y + 1) (M2 y), HSh.out.step (by omega) HN.out⟩, hBx3.of_block (set4_other _ _ _ _ hne _ _ _ _), by rw [set4_size]; exact hbx3, below_set4 hba3 hgB _ _ _ _⟩
                  case measure => simp [intOf]; omega
              · have hj0 : decide ((0 : Int) < (j : Int)) = false := decide_eq_false (by omega)
                have hj0' : ¬ (0 : Int) < (j : Int) := by omega
                have ej : j = 0 := by omega
                have HJ : Hid (j = 0) := ej
                have l2 : j < n := by omega
                clear ej
                obtain ⟨b0, b1, b2, b3⟩ := hBx
                obtain ⟨q0, q1, q2, q3⟩ := hM2.cells (i := j) l2
                obtain ⟨z0, z1, z2, z3⟩ := hM2.room j
                generalize M2 j = uu at q0 q1 q2 q3
                go_wp2
                go_quiet (fail)
                go_wp2
                clear b0 b1 b2 b3 q0 q1 q2 q3 z0 z1 z2 z3
                go_roundw
                case rel =>
                  have D := HSh.out.done (Or.inl HJ.out) hji hlt
                  have hMd : Own 39 (wr.drewN nq) g n M2 := hM2
                  have hbd : Below w.heap.size w (wr.drewN nq) := ⟨hba.os, hba.tape, hba.output, hba.size, hba.block⟩
                  exact ⟨i + 1, by omega, by omega, by go_num, ⟨_, hMd.set j x, D⟩, below_set4 hbd hgB _ _ _ _⟩
                case measure => simp [intOf]; omega
          · go_wp2
            go_ret
            have ein : i = n := by omega
            exact ⟨_, M, rfl, Or.inr ⟨g, rfl, hM⟩, Or.inr ⟨HEX.out, HS.out.1, by rw [← ein]; exact HS.out.2⟩, hbel⟩
end Go.Proofs.Qxb6613060aDoor
