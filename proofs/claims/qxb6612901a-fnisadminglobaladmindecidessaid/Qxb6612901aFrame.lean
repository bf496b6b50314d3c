/-
  SEAT b6612901a: small laws on worlds, and the frame that the four laws share.
-/
import Derived.Test.Qxb6612901aCallees
import Derived.ChangeOld
import Derived.Deep.Slices
import Derived.Deep.Strs
import Derived.Lib.SmallJoins
namespace Go.Proofs.Qxb6612901a
open Go.ChangeShapes Go.WideShapes Go.ChangeAt Go.RowKit

/-- the box of an argument of three cells -/
def Box (w : World) (b : Nat) (x : Asg) : Prop :=
  w.cell? ⟨b, 0, none⟩ = some (.int .i64 x.r) ∧ w.cell? ⟨b, 1, none⟩ = some (.bool x.adm) ∧ w.cell? ⟨b, 2, none⟩ = some (.int .i64 x.p)

theorem Box.below {w w' : World} {b B : Nat} {x : Asg} (h : Box w b x) (hb : Below B w w') (hB : b < B) : Box w' b x :=
  ⟨(hb.cell (p := ⟨b, 0, none⟩) hB).trans h.1, (hb.cell (p := ⟨b, 1, none⟩) hB).trans h.2.1, (hb.cell (p := ⟨b, 2, none⟩) hB).trans h.2.2⟩

theorem Box.made (w : World) (x : Asg) (t : TypeId) : Box (w.alloc (.cells #[.int .i64 x.r, .bool x.adm, .int .i64 x.p] t)) w.heap.size x := by
  refine ⟨?_, ?_, ?_⟩ <;> (rw [cell_of_row _ _ _ _ _ _ (heap_alloc_new _ _)]; rfl)

theorem Came.alloc {w : World} {a : Option Addr} {n c : Nat} {f : Nat → Asg} (h : Came w a n c f) {w' : World} (hb : Below w.heap.size w w') : Came w' a n c f := by
  rcases h with h | h | ⟨b, off, rfl, hb0, hl⟩
  · exact Or.inl h
  · exact Or.inr (Or.inl h)
  · refine Or.inr (Or.inr ⟨b, off, rfl, Nat.lt_of_lt_of_le hb0 hb.size, fun i hi => ?_⟩)
    obtain ⟨q0, q1, q2⟩ := hl i hi
    exact ⟨(hb.cell (p := ⟨b, off + i * 3, none⟩) hb0).trans q0, (hb.cell (p := ⟨b, off + i * 3 + 1, none⟩) hb0).trans q1, (hb.cell (p := ⟨b, off + i * 3 + 2, none⟩) hb0).trans q2⟩


theorem anyG_congr {f f' : Nat → Asg} {n : Nat} (h : ∀ i, i < n → f i = f' i) : anyG f n = anyG f' n := by
  induction n with
  | zero => rfl
  | succ n ih => unfold anyG; rw [ih (fun i hi => h i (by omega)), h n (by omega)]

theorem OwnS.pos {B : Nat} {w : World} {a : Option Addr} {n : Nat} {f : Nat → Asg} (h : OwnS B w (.slice a n n) n f) (hn : 0 < n) : ∃ g, a = some ⟨g, 0, none⟩ ∧ Own w g n f := by
  rcases h with ⟨_, h⟩ | ⟨g, h, _, ho⟩
  · omega
  · simp at h; exact ⟨g, h, ho⟩

theorem facts_cells (w : World) (u v : Value) : (w.alloc (.cells #[u, v] 38)).cell? ⟨w.heap.size, 0, none⟩ = some u ∧ (w.alloc (.cells #[u, v] 38)).cell? ⟨w.heap.size, 1, none⟩ = some v := by
  constructor <;> (rw [cell_of_row _ _ _ _ _ _ (heap_alloc_new _ _)]; rfl)

/-- 'zzFactsB1(s, v).IsAdmin()': the second call, behind the first -/
theorem admin_of_facts (B : Nat) (s : ByteArray) (a : Option Addr) (n : Nat) (f : Nat → Asg) (w : World) (hn : n ≤ 1048577) (ho : OwnS B w (.slice a n n) n f) :
    Calls Try.prog 11 #[.pointer (some ⟨w.heap.size, 0, none⟩)] (w.alloc (.cells #[.string s, .slice a n n] 38)) fun e w' => e = .returned (.bool (act s && anyG f n)) ∧ Below w.heap.size w w' := by
  have hb : Below w.heap.size w (w.alloc (.cells #[.string s, .slice a n n] 38)) := (Below.refl _ _).alloc (Nat.le_refl _) _
  refine (admin_any w.heap.size B s a n f _ hn (facts_cells w _ _).1 (facts_cells w _ _).2 (ho.below hb (Nat.le_refl _))).mono ?_
  rintro e w' ⟨rfl, h⟩
  exact ⟨rfl, hb.trans (h.mono (by simp))⟩

theorem made3' (w : World) (n m : Nat) (hm : m = n * 3) :
    Own (w.alloc (.cells (madeCells #[.int .i64 0, .bool false, .int .i64 0] m) 28)) w.heap.size n (fun _ => Asg.zero) := by
  subst hm; exact made3 w n


/-! ### The frame that all four laws share -/
theorem own : ownKnob Try.prog.godebug = none := by kernel_rfl
theorem laidOut : laidOutB Try.prog = true := by kernel_rfl
theorem cells24 : Try.prog.cellsOf 24 = 3 := by kernel_rfl
theorem cells2 : Try.prog.cellsOf 2 = 1 := by kernel_rfl
theorem cells4 : Try.prog.cellsOf 4 = 1 := by kernel_rfl

section
variable {H : Type} {enc : TypeId × Value → H} {W : World}

/-- one element of the slice that came in -/
theorem elem_open {base n : Nat} {spare : Nat → Bool} {held : Bool} {cs : List Value} {x : DataW H × List MemPlace} (h : DataW.trod enc Try.prog W base spare held n 24 cs = some x) :
    ∃ y : Asg, cs = [.int .i64 y.r, .bool y.adm, .int .i64 y.p] := by
  obtain ⟨y0, y1, y2, m, _, hl, h0, h1, h2⟩ := Deep.trod_struct3 Try.underlying24 h
  rw [cells24] at hl
  match cs, hl with
  | [c0, c1, c2], _ =>
    simp only [cells2, cells4, List.drop_zero, List.take_succ_cons, List.take_zero, List.drop_succ_cons] at h0 h1 h2
    obtain ⟨r, e0, _, _⟩ := DataW.trod_int Try.underlying2 h0
    obtain ⟨a, e1, _⟩ := DataW.trod_bool Try.underlying4 h1
    obtain ⟨p, e2, _, _⟩ := DataW.trod_int Try.underlying2 h2
    simp at e0 e1 e2
    subst e0 e1 e2
    exact ⟨⟨r, a, p⟩, rfl⟩

theorem asg_default : Nonempty Asg := ⟨Asg.zero⟩

theorem came_open {a : Option Addr} {len cap : Nat} {d : DataW H} {ps : List MemPlace} (h : DataW.Trod enc Try.prog W 0 (fun _ => true) true 22 (.slice a len cap) d ps) :
    len ≤ 9223372036854775807 ∧ ∃ f, Came W a len cap f := by
  obtain ⟨fuel, hf⟩ := h
  rcases Deep.open_slice Try.underlying22 hf with ⟨hcs, _⟩ | ⟨x, l, c, m, n, D, Pl, hcs, _, hl, hm, hmm, _, hx⟩
  · simp [Value.cells] at hcs
    obtain ⟨rfl, rfl, rfl⟩ := hcs
    exact ⟨by omega, fun _ => Asg.zero, Or.inl ⟨rfl, rfl, rfl⟩⟩
  · simp [Value.cells] at hcs
    obtain ⟨rfl, rfl, rfl⟩ := hcs
    unfold maxLen at hm
    refine ⟨by omega, ?_⟩
    rcases Nat.eq_zero_or_pos len with h0 | hpos
    · exact ⟨fun _ => Asg.zero, Or.inr (Or.inl ⟨h0, x, rfl⟩)⟩
    simp only [if_true] at hmm
    subst hmm
    rw [cells24] at hx
    have hc : ∀ i, i < len → ∃ y : Asg, W.cell? (x.add (i * 3)) = some (.int .i64 y.r) ∧ W.cell? ((x.add (i * 3)).add 1) = some (.bool y.adm) ∧ W.cell? ((x.add (i * 3)).add 2) = some (.int .i64 y.p) := by
      intro i hi
      obtain ⟨cs', h1, h2⟩ := hx i (by omega)
      obtain ⟨y, rfl⟩ := elem_open h2
      obtain ⟨_, _, hc⟩ := World.cells?_some h1
      refine ⟨y, ?_, hc 1 (by omega), hc 2 (by omega)⟩
      have := hc 0 (by omega)
      simpa [Addr.add] using this
    obtain ⟨b, off, spot⟩ := x
    have hspot : spot = none := by
      obtain ⟨y, q, _⟩ := hc 0 hpos
      simpa [Addr.add] using World.cell?_spot q
    subst hspot
    have : Inhabited Asg := ⟨Asg.zero⟩
    obtain ⟨f, hf⟩ := Deep.choose_lt hc
    refine ⟨f, Or.inr (Or.inr ⟨b, off, rfl, ?_, fun i hi => ?_⟩)⟩
    · have := block_lt_of_cell (hf 0 hpos).1
      simpa [Addr.add] using this
    · obtain ⟨q0, q1, q2⟩ := hf i hi
      have ea : ∀ j, (⟨b, off, none⟩ : Addr).add j = ⟨b, off + j, none⟩ := fun j => by unfold Addr.add; by_cases hj : j = 0 <;> simp [hj]
      have eb : ∀ i j, (⟨b, i, none⟩ : Addr).add j = ⟨b, i + j, none⟩ := fun i j => by unfold Addr.add; by_cases hj : j = 0 <;> simp [hj]
      rw [ea] at q0 q1 q2
      rw [eb] at q1 q2
      exact ⟨q0, q1, q2⟩

/-- a struct by value -/
theorem asg_open {b0 : Nat} {r : Reach} {v : Value} {d : DataW H} {ps : List MemPlace} (hv : Value.okWide Try.prog W r b0 24 v) (h : DataW.Trod enc Try.prog W 0 (fun _ => true) true 24 v d ps) :
    ∃ x : Asg, v = .agg #[.int .i64 x.r, .bool x.adm, .int .i64 x.p] := by
  obtain ⟨v0, v1, v2, y0, y1, y2, n, rfl, rfl, rfl, h0, h1, h2⟩ := Joins.open_agg3 Try.underlying24 (by kernel_rfl) cells24 hv h
  obtain ⟨r, e0, _, _⟩ := DataW.trod_int Try.underlying2 h0
  obtain ⟨a, e1, _⟩ := DataW.trod_bool Try.underlying4 h1
  obtain ⟨p, e2, _, _⟩ := DataW.trod_int Try.underlying2 h2
  simp at e0 e1 e2
  subst e0 e1 e2
  exact ⟨⟨r, a, p⟩, rfl⟩
end
end Go.Proofs.Qxb6612901a
