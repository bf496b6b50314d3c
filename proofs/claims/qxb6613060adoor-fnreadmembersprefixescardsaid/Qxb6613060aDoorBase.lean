/-
  SEAT b6613060aD: what a 'Server' is as plain data, and how a row of them lies in memory.
-/
import Derived.Test.Qxb6613060aDoorRows
import Derived.Test.Qxb6613060aDoorPlain
import Derived.WalkKit
import Derived.ProofKit
import Derived.OpenShut
import Derived.ShutString
import Derived.WalkLawsBesides
import Derived.Deep.OwnRows
namespace Go.Proofs.Qxb6613060aDoor
open Go.ChangeShapes Go.WideShapes Go.ChangeAt Go.RowKit

/-- cell j of a row of servers, four cells each -/
def c4 (f : Nat → Srv) (j : Nat) : Value :=
  if j % 4 = 0 then .string (f (j / 4)).id else if j % 4 = 1 then .string (f (j / 4)).addr else if j % 4 = 2 then .string (f (j / 4)).api else .bool (f (j / 4)).non

theorem c4_0 (f : Nat → Srv) (i : Nat) : c4 f (i * 4) = .string (f i).id := by
  unfold c4; rw [if_pos (by omega), show i * 4 / 4 = i by omega]
theorem c4_1 (f : Nat → Srv) (i : Nat) : c4 f (i * 4 + 1) = .string (f i).addr := by
  unfold c4; rw [if_neg (by omega), if_pos (by omega), show (i * 4 + 1) / 4 = i by omega]
theorem c4_2 (f : Nat → Srv) (i : Nat) : c4 f (i * 4 + 2) = .string (f i).api := by
  unfold c4; rw [if_neg (by omega), if_neg (by omega), if_pos (by omega), show (i * 4 + 2) / 4 = i by omega]
theorem c4_3 (f : Nat → Srv) (i : Nat) : c4 f (i * 4 + 3) = .bool (f i).non := by
  unfold c4; rw [if_neg (by omega), if_neg (by omega), if_neg (by omega), show (i * 4 + 3) / 4 = i by omega]

/-- A row of servers (of the element type e: 38 or 39) at the head of block g: at least n of them, f their content. -/
def Own (e : TypeId) (w : World) (g n : Nat) (f : Nat → Srv) : Prop :=
  ∃ cur : Array Value, w.heap[g]? = some (.cells cur e (0, 0)) ∧ n * 4 ≤ cur.size ∧ ∀ j, j < n * 4 → cur[j]? = some (c4 f j)

section
variable {e : TypeId} {w w' : World} {g n : Nat} {f f' : Nat → Srv}

theorem Own.cell (h : Own e w g n f) {j : Nat} (hj : j < n * 4) : w.cell? ⟨g, j, none⟩ = some (c4 f j) := by
  obtain ⟨cur, hb, _, hc⟩ := h
  rw [cell_of_row _ _ _ _ _ _ hb, hc j hj]

theorem Own.cells (h : Own e w g n f) {i : Nat} (hi : i < n) :
    w.cell? ⟨g, i * 4, none⟩ = some (.string (f i).id) ∧ w.cell? ⟨g, i * 4 + 1, none⟩ = some (.string (f i).addr) ∧ w.cell? ⟨g, i * 4 + 2, none⟩ = some (.string (f i).api) ∧ w.cell? ⟨g, i * 4 + 3, none⟩ = some (.bool (f i).non) := by
  refine ⟨?_, ?_, ?_, ?_⟩
  · rw [h.cell (by omega), c4_0]
  · rw [h.cell (by omega), c4_1]
  · rw [h.cell (by omega), c4_2]
  · rw [h.cell (by omega), c4_3]

theorem Own.frozen (h : Own e w g n f) (j : Nat) : w.frozen? ⟨g, j, none⟩ = false := by
  obtain ⟨cur, hb, _, _⟩ := h
  exact frozen_of_row _ _ _ _ _ hb

theorem Own.lt (h : Own e w g n f) : g < w.heap.size := by
  obtain ⟨cur, hb, _, _⟩ := h
  exact (Array.getElem?_eq_some_iff.1 hb).1

theorem Own.of_block (h : Own e w g n f) (hb : w'.heap[g]? = w.heap[g]?) : Own e w' g n f := by
  obtain ⟨cur, h1, h2, h3⟩ := h
  exact ⟨cur, hb.trans h1, h2, h3⟩

theorem Own.below {B : Nat} (h : Own e w g n f) (hb : Below B w w') (hg : g < B) : Own e w' g n f := h.of_block (hb.block g hg)

theorem Own.grown {row : Option Nat} (h : Own e w g n f) (hb : w.grownBy w' row) (hg : some g ≠ row) : Own e w' g n f := h.of_block (hb.block g h.lt hg)

theorem Own.congr (h : Own e w g n f) (he : ∀ i, i < n → f i = f' i) : Own e w g n f' := by
  obtain ⟨cur, h1, h2, h3⟩ := h
  refine ⟨cur, h1, h2, fun j hj => ?_⟩
  rw [h3 j hj]
  unfold c4
  rw [he (j / 4) (by omega)]

theorem Own.mono {m : Nat} (h : Own e w g n f) (hm : m ≤ n) : Own e w g m f := by
  obtain ⟨cur, h1, h2, h3⟩ := h
  exact ⟨cur, h1, by omega, fun j hj => h3 j (by omega)⟩

theorem Own.set1 (h : Own e w g n f) {i : Nat} {v : Value} {F : Nat → Srv} (hF : ∀ j, j < n * 4 → c4 F j = if j = i then v else c4 f j) : Own e (w.setCell ⟨g, i, none⟩ v) g n F := by
  obtain ⟨cur, h1, h2, h3⟩ := h
  refine ⟨cur.setIfInBounds i v, heap_setCell_same _ _ _ _ _ _ h1, by simpa using h2, fun j hj => ?_⟩
  rw [Array.getElem?_setIfInBounds, hF j hj]
  by_cases e0 : i = j
  · subst e0; rw [if_pos rfl, if_pos (by omega), if_pos rfl]
  · rw [if_neg e0, if_neg (fun h => e0 h.symm)]; exact h3 j hj

def withId (x y : Srv) : Srv := ⟨x.id, y.addr, y.api, y.non⟩
def withAddr (x y : Srv) : Srv := ⟨x.id, x.addr, y.api, y.non⟩
def withApi (x y : Srv) : Srv := ⟨x.id, x.addr, x.api, y.non⟩

theorem c4_upd_off (f : Nat → Srv) (i j : Nat) (x : Srv) (h : j / 4 ≠ i) : c4 (upd f i x) j = c4 f j := by
  unfold c4 upd; rw [if_neg h]

theorem Own.set (h : Own e w g n f) (i : Nat) (x : Srv) :
    Own e ((((w.setCell ⟨g, i * 4, none⟩ (.string x.id)).setCell ⟨g, i * 4 + 1, none⟩ (.string x.addr)).setCell ⟨g, i * 4 + 2, none⟩ (.string x.api)).setCell ⟨g, i * 4 + 3, none⟩ (.bool x.non)) g n (upd f i x) := by
  have hd : ∀ j, j / 4 = i → j = i * 4 ∨ j = i * 4 + 1 ∨ j = i * 4 + 2 ∨ j = i * 4 + 3 := fun j hj => by omega
  have k1 := h.set1 (i := i * 4) (v := .string x.id) (F := upd f i (withId x (f i))) (fun j _ => by
    by_cases e0 : j / 4 = i
    · rcases hd j e0 with rfl | rfl | rfl | rfl
      · simp [c4_0, upd, withId]
      · simp [c4_1, upd, withId]
      · simp [c4_2, upd, withId]
      · simp [c4_3, upd, withId]
    · rw [c4_upd_off _ _ _ _ e0, if_neg (by omega)])
  have k2 := k1.set1 (i := i * 4 + 1) (v := .string x.addr) (F := upd f i (withAddr x (f i))) (fun j _ => by
    by_cases e0 : j / 4 = i
    · rcases hd j e0 with rfl | rfl | rfl | rfl
      · simp [c4_0, upd, withId, withAddr]
      · simp [c4_1, upd, withAddr]
      · simp [c4_2, upd, withId, withAddr]
      · simp [c4_3, upd, withId, withAddr]
    · rw [c4_upd_off _ _ _ _ e0, c4_upd_off _ _ _ _ e0, if_neg (by omega)])
  have k3 := k2.set1 (i := i * 4 + 2) (v := .string x.api) (F := upd f i (withApi x (f i))) (fun j _ => by
    by_cases e0 : j / 4 = i
    · rcases hd j e0 with rfl | rfl | rfl | rfl
      · simp [c4_0, upd, withApi, withAddr]
      · simp [c4_1, upd, withApi, withAddr]
      · simp [c4_2, upd, withApi]
      · simp [c4_3, upd, withApi, withAddr]
    · rw [c4_upd_off _ _ _ _ e0, c4_upd_off _ _ _ _ e0, if_neg (by omega)])
  exact k3.set1 (i := i * 4 + 3) (v := .bool x.non) (F := upd f i x) (fun j _ => by
    by_cases e0 : j / 4 = i
    · rcases hd j e0 with rfl | rfl | rfl | rfl
      · simp [c4_0, upd, withApi]
      · simp [c4_1, upd, withApi]
      · simp [c4_2, upd, withApi]
      · simp [c4_3, upd]
    · rw [c4_upd_off _ _ _ _ e0, c4_upd_off _ _ _ _ e0, if_neg (by omega)])

/-- what a store into element i wants to know of the row -/
theorem Own.room (h : Own e w g n f) (i : Nat) :
    w.frozen? ⟨g, i * 4, none⟩ = false ∧ w.frozen? ⟨g, i * 4 + 1, none⟩ = false ∧ w.frozen? ⟨g, i * 4 + 2, none⟩ = false ∧ w.frozen? ⟨g, i * 4 + 3, none⟩ = false :=
  ⟨h.frozen _, h.frozen _, h.frozen _, h.frozen _⟩

theorem grownBy_set4 {w0 : World} (h : w0.grownBy w (some g)) (i : Nat) (u0 u1 u2 u3 : Value) :
    w0.grownBy ((((w.setCell ⟨g, i, none⟩ u0).setCell ⟨g, i + 1, none⟩ u1).setCell ⟨g, i + 2, none⟩ u2).setCell ⟨g, i + 3, none⟩ u3) (some g) := by
  have one : ∀ (w1 : World) (j : Nat) (u : Value), w0.grownBy w1 (some g) → w0.grownBy (w1.setCell ⟨g, j, none⟩ u) (some g) := fun w1 j u h1 =>
    ⟨h1.os, h1.tape, h1.output, by simpa [World.setCell] using h1.size, fun k hk hne => by
      rw [heap_setCell_other _ _ _ _ (by intro e1; exact hne (by rw [e1]))]; exact h1.block k hk hne⟩
  exact one _ _ _ (one _ _ _ (one _ _ _ (one _ _ _ h)))

theorem below_set4 {B : Nat} (h : Below B w w') {i : Nat} (hg : B ≤ g) (u0 u1 u2 u3 : Value) :
    Below B w ((((w'.setCell ⟨g, i, none⟩ u0).setCell ⟨g, i + 1, none⟩ u1).setCell ⟨g, i + 2, none⟩ u2).setCell ⟨g, i + 3, none⟩ u3) :=
  (((h.setCell (p := ⟨g, i, none⟩) hg u0).setCell (p := ⟨g, i + 1, none⟩) hg u1).setCell (p := ⟨g, i + 2, none⟩) hg u2).setCell (p := ⟨g, i + 3, none⟩) hg u3

theorem World.grownBy.trans' {w1 w2 : World} {row : Option Nat} (h : w.grownBy w1 row) (k : w1.grownBy w2 row) : w.grownBy w2 row :=
  ⟨k.os.trans h.os, k.tape.trans h.tape, k.output.trans h.output, Nat.le_trans h.size k.size, fun j hj hne => (k.block j (Nat.lt_of_lt_of_le hj h.size) hne).trans (h.block j hj hne)⟩

theorem grownBy_of_below {row : Option Nat} (h : Below w.heap.size w w') : w.grownBy w' row := ⟨h.os, h.tape, h.output, h.size, fun k hk _ => h.block k hk⟩

theorem grownBy_below {B : Nat} (h : w.grownBy w' (some g)) (hB : B ≤ w.heap.size) (hg : B ≤ g) : Below B w w' :=
  ⟨h.os, h.tape, h.output, h.size, fun k hk => h.block k (by omega) (by intro e1; simp at e1; omega)⟩
end
end Go.Proofs.Qxb6613060aDoor
