/-
  SEAT b6612901a: what an 'Assignment' is as plain data, how a row of them lies in memory, and the contracts of the small callees.
-/
import Derived.Test.Qxb6612901aRows
import Derived.WalkKit
import Derived.ProofKit
import Derived.OpenShut
import Derived.ShutString
import Derived.WalkLawsBesides
import Derived.Deep.OwnRows
namespace Go.Proofs.Qxb6612901a
open Go.ChangeShapes Go.WideShapes Go.ChangeAt Go.RowKit

/-! ### Plain data -/
structure Asg where
  r : Int
  adm : Bool
  p : Int

def Asg.zero : Asg := ⟨0, false, 0⟩

/-- an admin role that is held globally -/
def Asg.glob (x : Asg) : Bool := x.adm && (x.p == 0)

/-- the status that counts -/
def act (s : ByteArray) : Bool := s.toList == [97, 99, 116, 105, 118, 101]

/-- does one of the first n give everything? -/
def anyG (f : Nat → Asg) : Nat → Bool
  | 0 => false
  | n + 1 => anyG f n || (f n).glob

/-- cell j of a row of assignments, three cells each -/
def c3 (f : Nat → Asg) (j : Nat) : Value :=
  if j % 3 = 0 then .int .i64 (f (j / 3)).r else if j % 3 = 1 then .bool (f (j / 3)).adm else .int .i64 (f (j / 3)).p

def upd (f : Nat → Asg) (i : Nat) (x : Asg) : Nat → Asg := fun j => if j = i then x else f j

theorem c3_0 (f : Nat → Asg) (i : Nat) : c3 f (i * 3) = .int .i64 (f i).r := by
  unfold c3; rw [if_pos (by omega), show i * 3 / 3 = i by omega]
theorem c3_1 (f : Nat → Asg) (i : Nat) : c3 f (i * 3 + 1) = .bool (f i).adm := by
  unfold c3; rw [if_neg (by omega), if_pos (by omega), show (i * 3 + 1) / 3 = i by omega]
theorem c3_2 (f : Nat → Asg) (i : Nat) : c3 f (i * 3 + 2) = .int .i64 (f i).p := by
  unfold c3; rw [if_neg (by omega), if_neg (by omega), show (i * 3 + 2) / 3 = i by omega]

/-- a row of n assignments in a block of the call's own -/
def Own (w : World) (g n : Nat) (f : Nat → Asg) : Prop := w.rowIs g 28 (n * 3) (c3 f)

theorem Own.cells {w : World} {g n : Nat} {f : Nat → Asg} (h : Own w g n f) {i : Nat} (hi : i < n) :
    w.cell? ⟨g, i * 3, none⟩ = some (.int .i64 (f i).r) ∧ w.cell? ⟨g, i * 3 + 1, none⟩ = some (.bool (f i).adm) ∧ w.cell? ⟨g, i * 3 + 2, none⟩ = some (.int .i64 (f i).p) := by
  refine ⟨?_, ?_, ?_⟩
  · rw [h.cell (by omega), c3_0]
  · rw [h.cell (by omega), c3_1]
  · rw [h.cell (by omega), c3_2]

theorem Own.frozen {w : World} {g n : Nat} {f : Nat → Asg} (h : Own w g n f) (i : Nat) : w.frozen? ⟨g, i, none⟩ = false := World.rowIs.frozen h i

theorem Own.lt {w : World} {g n : Nat} {f : Nat → Asg} (h : Own w g n f) : g < w.heap.size := World.rowIs.lt h

theorem Own.below {w w' : World} {g n B : Nat} {f : Nat → Asg} (h : Own w g n f) (hb : Below B w w') (hg : g < B) : Own w' g n f := World.rowIs.of_block h (hb.block g hg)

theorem Own.congr {w : World} {g n : Nat} {f f' : Nat → Asg} (h : Own w g n f) (e : ∀ i, i < n → f i = f' i) : Own w g n f' := by
  refine World.rowIs.congr h fun j hj => ?_
  unfold c3
  rw [e (j / 3) (by omega)]

theorem Own.set {w : World} {g n : Nat} {f : Nat → Asg} (h : Own w g n f) (i : Nat) (x : Asg) :
    Own (((w.setCell ⟨g, i * 3, none⟩ (.int .i64 x.r)).setCell ⟨g, i * 3 + 1, none⟩ (.bool x.adm)).setCell ⟨g, i * 3 + 2, none⟩ (.int .i64 x.p)) g n (upd f i x) := by
  refine World.rowIs.congr (((World.rowIs.set h (i * 3) _).set (i * 3 + 1) _).set (i * 3 + 2) _) fun j _ => ?_
  by_cases e2 : j = i * 3 + 2
  · subst e2; simp [c3_2, upd]
  · rw [if_neg e2]
    by_cases e1 : j = i * 3 + 1
    · subst e1; simp [c3_1, upd]
    · rw [if_neg e1]
      by_cases e0 : j = i * 3
      · subst e0; simp [c3_0, upd]
      · rw [if_neg e0]
        have : j / 3 ≠ i := by omega
        unfold c3 upd
        rw [if_neg this]

theorem made3 (w : World) (n : Nat) :
    Own (w.alloc (.cells (madeCells #[.int .i64 0, .bool false, .int .i64 0] (n * 3)) 28)) w.heap.size n (fun _ => Asg.zero) := by
  refine ⟨_, heap_alloc_new _ _, size_madeCells _ _, fun i hi => ?_⟩
  have h3 : i % 3 = 0 ∨ i % 3 = 1 ∨ i % 3 = 2 := by omega
  rcases h3 with h | h | h <;> simp [madeCells, hi, c3, Asg.zero, h]

theorem Try.info28 : (Try.prog.info? 28).map (fun i => (i.zero, i.size, i.bytes)) = some (some (.agg #[.int .i64 0, .bool false, .int .i64 0]), 3, 24) := by kernel_rfl

/-- 'make([]Assignment, n)' -/
theorem run_make3 (n : Nat) (hn : n ≤ 1048577) (w : World) :
    (Instr.makeSlice 26 (.int .i64 (n : Int)) (.int .i64 (n : Int))).run Try.prog w = .ok (.slice (some ⟨w.heap.size, 0, none⟩) n n) (w.alloc (.cells (madeCells #[.int .i64 0, .bool false, .int .i64 0] (n * 3)) 28)) := by
  obtain ⟨i, hi, hz0, hz1, hz2⟩ := info_parts Try.info28
  have hr := run_make (P := Try.prog) w 26 28 i _ Try.underlying26 hi hz0 .i64 .i64 n n (by omega) (Int.le_refl _) (by rw [hz2]; omega) (by omega)
  simp only [Int.toNat_natCast, hz1] at hr
  exact hr

/-! ### The small callees -/
theorem one_any (x : Asg) (w : World) :
    Calls Try.prog 9 #[.agg #[.int .i64 x.r, .bool x.adm, .int .i64 x.p]] w fun e w' => e = .returned (.agg #[.int .i64 x.r, .bool x.adm, .int .i64 x.p]) ∧ Below w.heap.size w w' := by
  obtain ⟨r, a, p⟩ := x
  go_enter Try.func9, Try.ntmps9
  go_wp2
  exact bodyPost_ret (v := .agg #[.int .i64 r, .bool a, .int .i64 p]) (by simp [results, Try.results9, go_sem]) rfl ⟨rfl, ((Below.refl _ _).alloc (Nat.le_refl _) _).alloc (by simp) _⟩

theorem facts_any (s : ByteArray) (a : Option Addr) (n c : Nat) (w : World) :
    Calls Try.prog 10 #[.string s, .slice a n c] w fun e w' => e = .returned (.pointer (some ⟨w.heap.size, 0, none⟩)) ∧ w' = w.alloc (.cells #[.string s, .slice a n c] 38) := by
  go_enter Try.func10, Try.ntmps10
  go_wp2
  go_ret
  exact ⟨rfl, rfl⟩

theorem ret_bool {a b : Bool} (h : a = b) : Ending.returned (.bool a) = .returned (.bool b) := by rw [h]

theorem counts17_any (x : Asg) (q : Int) (w : World) :
    Calls Try.prog 17 #[.agg #[.int .i64 x.r, .bool x.adm, .int .i64 x.p], .int .i64 q] w fun e w' => e = .returned (.bool (x.p == 0 || x.p == q)) ∧ Below w.heap.size w w' := by
  obtain ⟨r, a, p⟩ := x
  by_cases h : (p == 0) = true
  all_goals
    go_enter Try.func17, Try.ntmps17
    go_wp2
    go_ret
    exact ⟨ret_bool (by simp_all), (Below.refl _ _).alloc (Nat.le_refl _) _⟩

/-- '(*HolderFacts).CountsIn' -/
theorem counts_any (b : Nat) (s : ByteArray) (x : Asg) (q : Int) (w : World) (h0 : w.cell? ⟨b, 0, none⟩ = some (.string s)) :
    Calls Try.prog 14 #[.pointer (some ⟨b, 0, none⟩), .agg #[.int .i64 x.r, .bool x.adm, .int .i64 x.p], .int .i64 q] w fun e w' => e = .returned (.bool (act s && (x.p == 0 || x.p == q))) ∧ Below w.heap.size w w' := by
  have hb := block_lt_of_cell h0
  simp only at hb
  obtain ⟨a, ha⟩ : ∃ a, a = act s := ⟨_, rfl⟩
  rw [← ha]
  unfold act at ha
  cases a
  all_goals
    have ha' := ha.symm
    clear ha
    go_enter Try.func14, Try.ntmps14
    go_wp2_with (go_at_call 17; refine (counts17_any x _ _).mono ?_; rintro e w' ⟨rfl, hbel⟩)
    go_ret
    first
      | exact ⟨ret_bool (by simp), (Below.refl _ _).alloc (Nat.le_refl _) _⟩
      | exact ⟨ret_bool (by simp), ((Below.refl _ _).alloc (Nat.le_refl _) _).trans (hbel.mono (by simp))⟩
end Go.Proofs.Qxb6612901a
