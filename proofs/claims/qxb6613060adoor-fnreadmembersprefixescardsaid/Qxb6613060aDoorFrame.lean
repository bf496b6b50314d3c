/-
  SEAT b6613060aD: the frame that the two rows share: what came in is opened, the listed variable is opened, a start that meets the condition.
-/
import Derived.Test.Qxb6613060aDoorRound
import Derived.Test.Qxb6613060aDoorTie
import Derived.Test.Qxb6613060aDoorCards
import Derived.ChangeOld
import Derived.Deep.Slices
import Derived.Deep.Strs
import Derived.Lib.SmallJoins
import Derived.LaidMore
import Derived.OpenShut
import Derived.Stop.Joined
namespace Go.Proofs.Qxb6613060aDoor
open Go.ChangeShapes Go.WideShapes Go.ChangeAt Go.RowKit

theorem own : ownKnob Tryd.prog.godebug = none := by kernel_rfl
theorem laidOut : laidOutB Tryd.prog = true := by kernel_rfl
theorem cellsOf38 : Tryd.prog.cellsOf 38 = 4 := by kernel_rfl
theorem cellsOf9 : Tryd.prog.cellsOf 9 = 1 := by kernel_rfl
theorem cellsOf4 : Tryd.prog.cellsOf 4 = 1 := by kernel_rfl
theorem gEof : Tryd.prog.globalNamed "io.ErrUnexpectedEOF" = some 0 := by kernel_rfl
theorem tEof : (Tryd.prog.globals[0]?).map (·.type) = some 48 := by kernel_rfl

/-- what the rows list -/
abbrev laid1 : List (String × DataW Unit) := [("io.ErrUnexpectedEOF", Rows.laid_io_ErrUnexpectedEOF)]

/-- the door's own heap meets the condition -/
theorem door_met (os : Os) (args : Array Value) : laidMetH Tryd.prog laid1 ((World.doorLaid Tryd.prog 400 os).forCall (fun _ _ => 0) ⟨#[], args, []⟩).memory :=
  laidMetH_of_parts3 (fuel := 8) (laidMet_of_run' 8 (by kernel_rfl) (by kernel_rfl)) (by kernel_rfl) (by kernel_rfl)

/-- what the condition gives the walks: the variable's one cell holds an error -/
theorem eof_of_laid {W : World} (h : laidMetH Tryd.prog laid1 W) : ∃ t x, W.cell? ⟨0, 0, none⟩ = some (.iface t x) := by
  rw [MakeChecks.laidMetH_plain _ _ _ (by kernel_rfl)] at h
  obtain ⟨ps, ⟨g0, t0, cs0, f0, p0, q0, hg0, ht0, hv0, hd0, _⟩, _, _⟩ := h
  obtain rfl := Option.some.inj (gEof.symm.trans hg0)
  obtain rfl := Option.some.inj (tEof.symm.trans ht0)
  obtain ⟨f1, u, v, hcs, _, _⟩ := iface_of_trod Tryd.underlying48 hd0
  refine ⟨u, v, ?_⟩
  have := World.var?_cell hg0 hv0 0
  rw [Array.eq_one_of_toList hcs] at this
  simpa using this

section
variable {H : Type} {enc : TypeId × Value → H} {W : World}

/-- one element of the slice that came in -/
theorem elem_open {base n : Nat} {spare : Nat → Bool} {held : Bool} {cs : List Value} {x : DataW H × List MemPlace} (h : DataW.trod enc Tryd.prog W base spare held n 38 cs = some x) :
    ∃ y : Srv, cs = [.string y.id, .string y.addr, .string y.api, .bool y.non] ∧ y.id.size ≤ 9223372036854775807 ∧ y.addr.size ≤ 9223372036854775807 ∧ y.api.size ≤ 9223372036854775807 := by
  obtain ⟨y0, y1, y2, y3, m, _, hl, h0, h1, h2, h3⟩ := Joins.trod_struct4 Tryd.underlying38 h
  rw [cellsOf38] at hl
  match cs, hl with
  | [c0, c1, c2, c3], _ =>
    simp only [cellsOf9, cellsOf4, List.drop_zero, List.take_succ_cons, List.take_zero, List.drop_succ_cons] at h0 h1 h2 h3
    obtain ⟨s0, e0, _, w0⟩ := DataW.trod_string Tryd.underlying9 h0
    obtain ⟨s1, e1, _, w1⟩ := DataW.trod_string Tryd.underlying9 h1
    obtain ⟨s2, e2, _, w2⟩ := DataW.trod_string Tryd.underlying9 h2
    obtain ⟨b, e3, _⟩ := DataW.trod_bool Tryd.underlying4 h3
    simp at e0 e1 e2 e3
    subst e0 e1 e2 e3
    unfold maxLen at w0 w1 w2
    exact ⟨⟨s0, s1, s2, b⟩, rfl, w0, w1, w2⟩

theorem came_open {a : Option Addr} {len cap : Nat} {d : DataW H} {ps : List MemPlace} (h : DataW.Trod enc Tryd.prog W 0 (fun _ => true) true 22 (.slice a len cap) d ps) :
    len ≤ 9223372036854775807 ∧ ∃ f, CameS W a len cap f ∧ Fits f len := by
  obtain ⟨fuel, hf⟩ := h
  rcases Deep.open_slice Tryd.underlying22 hf with ⟨hcs, _⟩ | ⟨x, l, c, m, n, D, Pl, hcs, _, hl, hm, hmm, _, hx⟩
  · simp [Value.cells] at hcs
    obtain ⟨rfl, rfl, rfl⟩ := hcs
    exact ⟨by omega, fun _ => Srv.zero, Or.inl ⟨rfl, rfl, rfl⟩, fun i hi => by omega⟩
  · simp [Value.cells] at hcs
    obtain ⟨rfl, rfl, rfl⟩ := hcs
    unfold maxLen at hm
    refine ⟨by omega, ?_⟩
    rcases Nat.eq_zero_or_pos len with h0 | hpos
    · exact ⟨fun _ => Srv.zero, Or.inr (Or.inl ⟨h0, x, rfl⟩), fun i hi => by omega⟩
    simp only [if_true] at hmm
    subst hmm
    rw [cellsOf38] at hx
    have hc : ∀ i, i < len → ∃ y : Srv, W.cell? (x.add (i * 4)) = some (.string y.id) ∧ W.cell? ((x.add (i * 4)).add 1) = some (.string y.addr) ∧ W.cell? ((x.add (i * 4)).add 2) = some (.string y.api) ∧ W.cell? ((x.add (i * 4)).add 3) = some (.bool y.non) ∧
        y.id.size ≤ 9223372036854775807 ∧ y.addr.size ≤ 9223372036854775807 ∧ y.api.size ≤ 9223372036854775807 := by
      intro i hi
      obtain ⟨cs', h1, h2⟩ := hx i (by omega)
      obtain ⟨y, rfl, hy⟩ := elem_open h2
      obtain ⟨_, _, hc⟩ := World.cells?_some h1
      refine ⟨y, ?_, hc 1 (by omega), hc 2 (by omega), hc 3 (by omega), hy⟩
      have := hc 0 (by omega)
      simpa [Addr.add] using this
    obtain ⟨b, off, spot⟩ := x
    have hspot : spot = none := by
      obtain ⟨y, q, _⟩ := hc 0 hpos
      simpa [Addr.add] using World.cell?_spot q
    subst hspot
    have : Inhabited Srv := ⟨Srv.zero⟩
    obtain ⟨f, hf⟩ := Deep.choose_lt hc
    refine ⟨f, Or.inr (Or.inr ⟨b, off, rfl, ?_, fun i hi => ?_⟩), fun i hi => (hf i hi).2.2.2.2⟩
    · have := block_lt_of_cell (hf 0 hpos).1
      simpa [Addr.add] using this
    · obtain ⟨q0, q1, q2, q3, _⟩ := hf i hi
      have ea : ∀ j, (⟨b, off, none⟩ : Addr).add j = ⟨b, off + j, none⟩ := fun j => by unfold Addr.add; by_cases hj : j = 0 <;> simp [hj]
      have eb : ∀ i j, (⟨b, i, none⟩ : Addr).add j = ⟨b, i + j, none⟩ := fun i j => by unfold Addr.add; by_cases hj : j = 0 <;> simp [hj]
      rw [ea] at q0 q1 q2 q3
      rw [eb] at q1 q2 q3
      exact ⟨q0, q1, q2, q3⟩
end
end Go.Proofs.Qxb6613060aDoor
