/-
  SEAT b6613060aD: the walk of zzSameServers.
-/
import Derived.Test.Qxb6613060aDoorServers
import Derived.Laws.CopyOwn
import Derived.Lib.BufferWrite
namespace Go.Proofs.Qxb6613060aDoor
open Go.ChangeShapes Go.WideShapes Go.ChangeAt Go.RowKit
set_option linter.unusedVariables false

def SaysTrue (w : World) (e : Ending) (w' : World) : Prop := e = .returned (.bool true) ∧ Below w.heap.size w w'

set_option maxHeartbeats 2000000 in
set_option maxRecDepth 100000 in
theorem same_any (a b : Option Addr) (n c d : Nat) (f h : Nat → Srv) (w : World) (hn : n ≤ 1048576) (ha : SrvS w a n f) (hb : SrvS w b n h) (heq : ∀ i, i < n → f i = h i) :
    Calls Tryd.prog 12 #[.slice a n c, .slice b n d] w (SaysTrue w) := by
  have hnn : ((n : Int) != (n : Int)) = false := by simp
  go_enter Tryd.func12, Tryd.ntmps12
  go_wp2
  go_loopw [5, 13] (fun _ vi wr => ∃ k : Nat, k ≤ n ∧ vi = .int .i64 k ∧ Below w.heap.size w wr) (fun _ vi _ => n - (intOf vi).toNat)
  case atStart => exact ⟨0, Nat.zero_le _, rfl, Below.refl _ _⟩
  case round =>
    obtain ⟨k, hk, rfl, hbel⟩ := hrel
    by_cases hlt : k < n
    · obtain ⟨g1, e1, ho1⟩ := ha.pos (by omega)
      obtain ⟨g2, e2, ho2⟩ := hb.pos (by omega)
      subst e1
      subst e2
      obtain ⟨p0, p1, p2, p3⟩ := (ho1.below hbel ho1.lt).cells (i := k) hlt
      obtain ⟨q0, q1, q2, q3⟩ := (ho2.below hbel ho2.lt).cells (i := k) hlt
      rw [← heq k hlt] at q0 q1 q2 q3
      generalize f k = y at p0 p1 p2 p3 q0 q1 q2 q3
      have ik0 : (0 : Int) ≤ (k : Int) := by omega
      have ik1 : (k : Int) < (n : Int) := by omega
      clear heq
      go_wp2
      go_region
      go_wp2
      go_roundw
      case rel => exact ⟨k + 1, by omega, by go_num, hbel.drew⟩
      case measure => simp [intOf]; omega
    · go_wp2
      go_ret
      exact ⟨rfl, hbel⟩

/-! ### zzCloneBytes -/
/-- a payload: the bytes l at the head of block g -/
def Pay (w : World) (g : Nat) (l : List UInt8) : Prop := ∃ cur, w.heap[g]? = some (.cells cur 5 (0, 0)) ∧ l.length ≤ cur.size ∧ ∀ j (hj : j < l.length), cur[j]? = some (.int .u8 (l[j]).toNat)

theorem Pay.cell {w : World} {g : Nat} {l : List UInt8} (h : Pay w g l) {j : Nat} (hj : j < l.length) : w.cell? ⟨g, j, none⟩ = some (.int .u8 (l[j]).toNat) := by
  obtain ⟨cur, h1, _, h3⟩ := h
  rw [cell_of_row _ _ _ _ _ _ h1, h3 j hj]

theorem Pay.lt {w : World} {g : Nat} {l : List UInt8} (h : Pay w g l) : g < w.heap.size := by
  obtain ⟨cur, h1, _⟩ := h
  exact (Array.getElem?_eq_some_iff.1 h1).1

theorem Pay.take {w : World} {g : Nat} {l : List UInt8} (h : Pay w g l) (k : Nat) : Pay w g (l.take k) := by
  obtain ⟨cur, h1, h2, h3⟩ := h
  exact ⟨cur, h1, by simp; omega, fun j hj => by rw [h3 j (by simp at hj; omega)]; simp⟩

theorem Pay.of_block {w w' : World} {g : Nat} {l : List UInt8} (h : Pay w g l) (hb : w'.heap[g]? = w.heap[g]?) : Pay w' g l := by
  obtain ⟨cur, h1, h2⟩ := h
  exact ⟨cur, hb.trans h1, h2⟩

theorem OwnB.pay {B : Nat} {w : World} {v : Value} {l : List UInt8} (h : OwnB B w v l) (hl : 0 < l.length) : ∃ g cap, v = .slice (some ⟨g, 0, none⟩) l.length cap ∧ B ≤ g ∧ l.length ≤ cap ∧ Pay w g l := by
  rcases h.2 with ⟨_, h0⟩ | ⟨g, cap, cur, hv, hg, hh, hc, _, hs, ht⟩
  · omega
  · refine ⟨g, cap, hv, hg, hc, cur, hh, by omega, fun j hj => ?_⟩
    have : (Lib.byteCells l)[j]? = some (.int .u8 (l[j]).toNat) := by unfold Lib.byteCells; simp [hj]
    rw [← this, ← ht]
    simp [hj]

def GotP (l : List UInt8) (w : World) (e : Ending) (w' : World) : Prop := ∃ g, e = .returned (.slice (some ⟨g, 0, none⟩) l.length l.length) ∧ w.heap.size ≤ g ∧ Pay w' g l ∧ Below w.heap.size w w'

theorem Tryd.info5' : (Tryd.prog.info? 5).map (·.size) = some 1 := by kernel_rfl

set_option maxHeartbeats 1000000 in
theorem cloneBytes_any (g cap : Nat) (l : List UInt8) (w : World) (hl : l.length ≤ 140737488355328) (hp : Pay w g l) :
    Calls Tryd.prog 15 #[.slice (some ⟨g, 0, none⟩) l.length cap] w (GotP l w) := by
  have hmk := run_make_row' (P := Tryd.prog) 26 5 (.int .u8 0) 1 Tryd.underlying26 Tryd.info5 rfl .i64 .i64 l.length (by omega) (by omega)
  have hnil := fun (wx : World) => @Lib.run_eql_slice_nil Tryd.prog wx 26 5 (some ⟨g, 0, none⟩) l.length cap 0 0 Tryd.underlying26
  have hcp := run_copy_row Tryd.prog (w.alloc (.cells (madeCells #[.int .u8 0] l.length) 5)) 26 26 3 5 w.heap.size 0 l.length l.length ⟨g, 0, none⟩ l.length cap _ 5 (Lib.byteCells l) Tryd.underlying26 Tryd.info5' (heap_alloc_new _ _) (by rw [Lib.byteCells_length]; exact (Nat.min_self _).symm) (by
      intro j v hj
      have hlt : j < l.length := by
        have := (List.getElem?_eq_some_iff.1 hj).1
        rwa [Lib.byteCells_length] at this
      have ea : (⟨g, 0, none⟩ : Addr).add j = ⟨g, j, none⟩ := by unfold Addr.add; by_cases h : j = 0 <;> simp [h]
      rw [ea, World.cell?_of_block (w := w) (a := ⟨g, j, none⟩) (Below.heap_alloc w _ g hp.lt), hp.cell hlt, ← hj]
      unfold Lib.byteCells
      simp [hlt]) (by rw [Lib.byteCells_length, size_madeCells]; omega) (Lib.byteCells_one l)
  go_enter Tryd.func15, Tryd.ntmps15
  go_wp2
  go_ret
  refine ⟨w.heap.size, rfl, Nat.le_refl _, ?_, below_setRow ((Below.refl _ _).alloc (Nat.le_refl _) _) (Nat.le_refl _) _⟩
  refine ⟨_, setRow_heap _ _ _ _ 5 _ (heap_alloc_new _ _), by simp [Lib.byteCells_length], fun j hj => ?_⟩
  rw [List.getElem?_toArray]
  try simp only [List.take_zero, List.nil_append]
  rw [List.getElem?_append_left (by rw [Lib.byteCells_length]; exact hj)]
  unfold Lib.byteCells
  simp [hj]

/-! ### zzKeyLess -/
def keyLess (x y : Srv) : Bool := if x.key = y.key then !x.non && y.non else decide (Lib.compareBytes x.key y.key < 0)

theorem bytesLess_cmp : ∀ a b : List UInt8, Op.bytesLess a b = decide (Lib.compareBytes a b < 0)
  | [], [] => by simp [Op.bytesLess, Lib.compareBytes]
  | _ :: _, [] => by simp [Op.bytesLess, Lib.compareBytes]
  | [], _ :: _ => by simp [Op.bytesLess, Lib.compareBytes]
  | a :: xs, b :: ys => by
    unfold Op.bytesLess Lib.compareBytes
    by_cases h : a < b
    · simp [h]
    · by_cases k : b < a
      · have hne : ¬ a = b := fun e => by subst e; exact UInt8.lt_irrefl _ k
        simp [h, k, hne]
      · have e : a = b := UInt8.le_antisymm (UInt8.not_lt.1 k) (UInt8.not_lt.1 h)
        subst e
        simp [UInt8.lt_irrefl, bytesLess_cmp xs ys]

theorem ret_bool {a b : Bool} (h : a = b) : Ending.returned (.bool a) = .returned (.bool b) := by rw [h]

theorem keyLess_any (x y : Srv) (w : World) :
    Calls Tryd.prog 24 #[.agg #[.string x.id, .string x.addr, .string x.api, .bool x.non], .agg #[.string y.id, .string y.addr, .string y.api, .bool y.non]] w fun e w' => e = .returned (.bool (keyLess x y)) ∧ Below w.heap.size w w' := by
  have hk : keyLess x y = if x.key = y.key then !x.non && y.non else decide (Lib.compareBytes x.key y.key < 0) := rfl
  have HK : Hid (keyLess x y = if x.key = y.key then !x.non && y.non else decide (Lib.compareBytes x.key y.key < 0)) := hk
  clear hk
  have hb : Below w.heap.size w ((w.alloc (.cells #[.string x.id, .string x.addr, .string x.api, .bool x.non] 39)).alloc (.cells #[.string y.id, .string y.addr, .string y.api, .bool y.non] 39)) := ((Below.refl _ _).alloc (Nat.le_refl _) _).alloc (by simp) _
  by_cases hkey : x.key = y.key
  · have he : (x.id.toList == y.id.toList) = true := by rw [ByteArray.toList_eq, ByteArray.toList_eq]; simpa [Srv.key] using hkey
    have HE : Hid (x.key = y.key) := hkey
    clear hkey
    cases hx : x.non
    all_goals
      rw [hx] at hb
      go_enter Tryd.func24, Tryd.ntmps24
      go_wp2
      go_ret
      refine ⟨ret_bool ?_, hb⟩
      rw [HK.out, if_pos HE.out, hx]
      simp
  · have he : (x.id.toList == y.id.toList) = false := by rw [ByteArray.toList_eq, ByteArray.toList_eq]; simpa [Srv.key] using hkey
    have HE : Hid (¬ x.key = y.key) := hkey
    clear hkey
    go_enter Tryd.func24, Tryd.ntmps24
    go_wp2
    go_ret
    refine ⟨ret_bool ?_, hb⟩
    rw [HK.out, if_neg HE.out]
    first
      | (rw [bytesLess_cmp, ByteArray.toList_eq, ByteArray.toList_eq]; rfl)
      | simp [bytesLess_cmp, ByteArray.toList_eq, Srv.key]
end Go.Proofs.Qxb6613060aDoor
