/-
  SEAT b6613060aD: the walks of zzCloneMembers and zzServers.
-/
import Derived.Test.Qxb6613060aDoorSizes
import Derived.Test.Qxb6613060aDoorSplit
import Derived.Deep.RegionHeld3
import Derived.Laws.CopyOwn
namespace Go.Proofs.Qxb6613060aDoor
open Go.ChangeShapes Go.WideShapes Go.ChangeAt Go.RowKit
set_option linter.unusedVariables false

/-- copy of n elements of four cells into a row of the call's own -/
theorem run_copy4 {P : Program} (w : World) (dT sT ty elem : TypeId) (g n dCap : Nat) (a : Addr) (sCap : Nat) (cur : Array Value) (t : TypeId) (cs : List Value)
    (hu : P.underlying dT = some (.slice elem)) (hs : (P.info? elem).map (·.size) = some 4) (hg : w.heap[g]? = some (.cells cur t (0, 0))) (hn : cs.length = n * 4)
    (hsrc : ∀ j v, cs[j]? = some v → w.cell? (a.add j) = some v) (hfit : cs.length ≤ cur.size) (h1 : ∀ v ∈ cs, v.oneCell' = true) :
    (Builtin.copy_ #[dT, sT] ty #[.slice (some ⟨g, 0, none⟩) n dCap, .slice (some a) n sCap]).run P w =
      .ok (goInt n) (w.setRow g (cs ++ cur.toList.drop cs.length).toArray) := by
  cases hq : P.info? elem with
  | none => simp [hq] at hs
  | some i =>
    have hi : i.size = 4 := by simpa [hq] using hs
    have hl := run_loadCells_list (P := P) w a cs hsrc
    rw [hn] at hl
    have hst := run_storeCells_at P g 0 t cs 0 cur w hg (by simpa using hfit) h1
    simp at hst
    simp [Builtin.copy_, run_underlying hu, Builtin.lenOf, Builtin.firstCells, sizeOf, typeInfo, hq, hi, hl, hst]

theorem Tryd.info38 : (Tryd.prog.info? 38).map (fun i => (i.zero, i.size, i.bytes)) = some (some (.agg #[.string ByteArray.empty, .string ByteArray.empty, .string ByteArray.empty, .bool false]), 4, 56) := by kernel_rfl

theorem made4 (e : TypeId) (w : World) (n : Nat) :
    Own e (w.alloc (.cells (madeCells #[.string ByteArray.empty, .string ByteArray.empty, .string ByteArray.empty, .bool false] (n * 4)) e)) w.heap.size n (fun _ => Srv.zero) := by
  refine ⟨_, heap_alloc_new _ _, by rw [size_madeCells]; exact Nat.le_refl _, fun i hi => ?_⟩
  have h3 : i % 4 = 0 ∨ i % 4 = 1 ∨ i % 4 = 2 ∨ i % 4 = 3 := by omega
  rcases h3 with h | h | h | h <;> simp [madeCells, hi, c4, Srv.zero, h]

theorem run_make4 (t e : TypeId) (ht : Tryd.prog.underlying t = some (.slice e)) (hinfo : (Tryd.prog.info? e).map (fun i => (i.zero, i.size, i.bytes)) = some (some (.agg #[.string ByteArray.empty, .string ByteArray.empty, .string ByteArray.empty, .bool false]), 4, 56)) (n : Nat) (hn : n ≤ 1048577) (w : World) :
    (Instr.makeSlice t (.int .i64 (n : Int)) (.int .i64 (n : Int))).run Tryd.prog w = .ok (.slice (some ⟨w.heap.size, 0, none⟩) n n) (w.alloc (.cells (madeCells #[.string ByteArray.empty, .string ByteArray.empty, .string ByteArray.empty, .bool false] (n * 4)) e)) := by
  obtain ⟨i, hi, hz0, hz1, hz2⟩ := info_parts hinfo
  have hr := run_make (P := Tryd.prog) w t e i _ ht hi hz0 .i64 .i64 n n (by omega) (Int.le_refl _) (by rw [hz2]; omega) (by omega)
  simp only [Int.toNat_natCast, hz1] at hr
  exact hr

/-- a slice of members of the call's own: nil, or at the head of a row -/
def MemS (B : Nat) (w : World) (a : Option Addr) (n : Nat) (f : Nat → Srv) : Prop := (a = none ∧ n = 0) ∨ ∃ g, a = some ⟨g, 0, none⟩ ∧ B ≤ g ∧ Own 38 w g n f

def GotC (n : Nat) (f : Nat → Srv) (w : World) (e : Ending) (w' : World) : Prop := ∃ a, e = .returned (.slice a n n) ∧ MemS w.heap.size w' a n f ∧ Below w.heap.size w w'

theorem clone_nil (f : Nat → Srv) (w : World) : Calls Tryd.prog 7 #[.slice none 0 0] w (GotC 0 f w) := by
  have hnil := fun (wx : World) => @Lib.run_eql_slice_nil Tryd.prog wx 22 38 none 0 0 0 0 Tryd.underlying22
  go_enter Tryd.func7, Tryd.ntmps7
  go_wp2
  go_ret
  exact ⟨none, rfl, Or.inl ⟨rfl, rfl⟩, Below.refl _ _⟩

theorem Lies.cell {w : World} {b off n : Nat} {f : Nat → Srv} (h : Lies w b off n f) {j : Nat} (hj : j < n * 4) : w.cell? ⟨b, off + j, none⟩ = some (c4 f j) := by
  obtain ⟨p0, p1, p2, p3⟩ := h (j / 4) (by omega)
  have h3 : j % 4 = 0 ∨ j % 4 = 1 ∨ j % 4 = 2 ∨ j % 4 = 3 := by omega
  rcases h3 with h | h | h | h
  · rw [show off + j = off + j / 4 * 4 by omega, p0]; unfold c4; simp [h]
  · rw [show off + j = off + j / 4 * 4 + 1 by omega, p1]; unfold c4; simp [h]
  · rw [show off + j = off + j / 4 * 4 + 2 by omega, p2]; unfold c4; simp [h]
  · rw [show off + j = off + j / 4 * 4 + 3 by omega, p3]; unfold c4; simp [h]

theorem nth_seg (f : Nat → Srv) (n i : Nat) (h : i < n) : nth (seg f 0 n) i = f i := by
  unfold nth seg
  simp [h]

theorem flat4_seg (f : Nat → Srv) (n j : Nat) (h : j < n * 4) : (flat4 (seg f 0 n))[j]? = some (c4 f j) := by
  rw [flat4_at _ j (by rw [seg_length]; omega)]
  unfold c4
  rw [nth_seg f n (j / 4) (by omega)]

theorem flat4_one (l : List Srv) : ∀ v ∈ flat4 l, v.oneCell' = true := by
  intro v hv
  unfold flat4 at hv
  rw [List.mem_flatMap] at hv
  obtain ⟨x, _, hx⟩ := hv
  exact cells4_one x v hx

set_option maxHeartbeats 1000000 in
theorem clone_own (b off n c : Nat) (f : Nat → Srv) (w : World) (hn : n ≤ 1048576) (hb : b < w.heap.size) (hl : Lies w b off n f) :
    Calls Tryd.prog 7 #[.slice (some ⟨b, off, none⟩) n c] w (GotC n f w) := by
  have hmk := run_make4 22 38 Tryd.underlying22 Tryd.info38 n (by omega)
  have hnil := fun (wx : World) => @Lib.run_eql_slice_nil Tryd.prog wx 22 38 (some ⟨b, off, none⟩) n c 0 0 Tryd.underlying22
  have hcp : (Builtin.copy_ #[22, 22] 3 #[.slice (some ⟨w.heap.size, 0, none⟩) n n, .slice (some ⟨b, off, none⟩) n c]).run Tryd.prog (w.alloc (.cells (madeCells #[.string ByteArray.empty, .string ByteArray.empty, .string ByteArray.empty, .bool false] (n * 4)) 38)) =
      .ok (goInt n) ((w.alloc (.cells (madeCells #[.string ByteArray.empty, .string ByteArray.empty, .string ByteArray.empty, .bool false] (n * 4)) 38)).setRow w.heap.size ((flat4 (seg f 0 n)) ++ (madeCells #[.string ByteArray.empty, .string ByteArray.empty, .string ByteArray.empty, .bool false] (n * 4)).toList.drop (flat4 (seg f 0 n)).length).toArray) := by
    refine run_copy4 _ 22 22 3 38 _ n n _ c _ 38 (flat4 (seg f 0 n)) Tryd.underlying22 (by kernel_rfl) (heap_alloc_new _ _) (by rw [flat4_length, seg_length, Nat.sub_zero]) ?_ (by rw [flat4_length, seg_length, size_madeCells]; omega) ?_
    · intro j v hj
      have hlt : j < n * 4 := by
        have := (List.getElem?_eq_some_iff.1 hj).1
        rwa [flat4_length, seg_length, Nat.sub_zero] at this
      have ea : (⟨b, off, none⟩ : Addr).add j = ⟨b, off + j, none⟩ := by unfold Addr.add; by_cases h : j = 0 <;> simp [h]
      rw [ea, ← hj, flat4_seg f n j hlt, World.cell?_of_block (w := w) (a := ⟨b, off + j, none⟩) (Below.heap_alloc w _ b hb)]
      exact hl.cell hlt
    · exact flat4_one _
  go_enter Tryd.func7, Tryd.ntmps7
  go_wp2
  go_ret
  refine ⟨_, rfl, Or.inr ⟨_, rfl, Nat.le_refl _, ?_⟩, below_setRow ((Below.refl _ _).alloc (Nat.le_refl _) _) (Nat.le_refl _) _⟩
  refine ⟨_, setRow_heap _ _ _ _ 38 _ (heap_alloc_new _ _), by simp [flat4_length, seg_length], fun j hj => ?_⟩
  rw [List.getElem?_toArray, List.getElem?_append_left (by rw [flat4_length, seg_length]; omega)]
  exact flat4_seg f n j hj

theorem clone_empty (a : Addr) (c : Nat) (f : Nat → Srv) (w : World) : Calls Tryd.prog 7 #[.slice (some a) 0 c] w (GotC 0 f w) := by
  have hmk := run_make4 22 38 Tryd.underlying22 Tryd.info38 0 (by omega)
  have hnil := fun (wx : World) => @Lib.run_eql_slice_nil Tryd.prog wx 22 38 (some a) 0 c 0 0 Tryd.underlying22
  have hcp := run_copy4 (P := Tryd.prog) (w.alloc (.cells (madeCells #[.string ByteArray.empty, .string ByteArray.empty, .string ByteArray.empty, .bool false] (0 * 4)) 38)) 22 22 3 38 w.heap.size 0 0 a c _ 38 [] Tryd.underlying22 (by kernel_rfl) (heap_alloc_new _ _) rfl (by simp) (by simp) (by simp)
  simp only [Nat.zero_mul, Int.natCast_zero] at hmk hcp
  go_enter Tryd.func7, Tryd.ntmps7
  go_wp2
  go_ret
  refine ⟨_, rfl, Or.inr ⟨_, rfl, Nat.le_refl _, ?_⟩, below_setRow ((Below.refl _ _).alloc (Nat.le_refl _) _) (Nat.le_refl _) _⟩
  exact ⟨_, setRow_heap _ _ _ _ 38 _ (heap_alloc_new _ _), by simp, fun j hj => by omega⟩

theorem clone_any (a : Option Addr) (n c : Nat) (f : Nat → Srv) (w : World) (hn : n ≤ 1048576) (hc : CameS w a n c f) : Calls Tryd.prog 7 #[.slice a n c] w (GotC n f w) := by
  rcases hc with ⟨rfl, rfl, rfl⟩ | ⟨rfl, a', rfl⟩ | ⟨b, off, rfl, hb, hl⟩
  · exact clone_nil f w
  · exact clone_empty a' c f w
  · exact clone_own b off n c f w hn hb hl

/-- the first k of f, then nothing -/
def fill (f : Nat → Srv) (k : Nat) : Nat → Srv := fun j => if j < k then f j else Srv.zero

theorem fill_next {e : TypeId} {w : World} {g n : Nat} {f : Nat → Srv} {k : Nat} {x : Srv} (hx : f k = x) (h : Own e w g n (upd (fill f k) k x)) : Own e w g n (fill f (k + 1)) := by
  refine h.congr fun i _ => ?_
  unfold upd fill
  by_cases e : i = k
  · rw [if_pos e, if_pos (by omega), e, hx]
  · rw [if_neg e]
    by_cases l : i < k
    · rw [if_pos l, if_pos (by omega)]
    · rw [if_neg l, if_neg (by omega)]

theorem fill_done {e : TypeId} {w : World} {g n : Nat} {f : Nat → Srv} {k : Nat} (hk : n ≤ k) (h : Own e w g n (fill f k)) : Own e w g n f :=
  h.congr fun i hi => by unfold fill; rw [if_pos (by omega)]

theorem fill_none {e : TypeId} {w : World} {g n : Nat} (f : Nat → Srv) (h : Own e w g n (fun _ => Srv.zero)) : Own e w g n (fill f 0) :=
  h.congr fun i hi => by unfold fill; rw [if_neg (by omega)]

def GotV (n : Nat) (f : Nat → Srv) (w : World) (e : Ending) (w' : World) : Prop := ∃ a, e = .returned (.slice a n n) ∧ ((a = none ∧ n = 0) ∨ ∃ g, a = some ⟨g, 0, none⟩ ∧ w.heap.size ≤ g ∧ Own 39 w' g n f) ∧ Below w.heap.size w w'

theorem servs_nil (f : Nat → Srv) (c : Nat) (w : World) : Calls Tryd.prog 9 #[.slice none 0 c] w (GotV 0 f w) := by
  have hnil := fun (wx : World) => @Lib.run_eql_slice_nil Tryd.prog wx 22 38 none 0 c 0 0 Tryd.underlying22
  go_enter Tryd.func9, Tryd.ntmps9
  go_wp2
  go_ret
  exact ⟨none, rfl, Or.inl ⟨rfl, rfl⟩, Below.refl _ _⟩

set_option maxHeartbeats 2000000 in
set_option maxRecDepth 100000 in
theorem servs_own (g n c : Nat) (f : Nat → Srv) (w : World) (hn : n ≤ 1048576) (ho : Own 38 w g n f) : Calls Tryd.prog 9 #[.slice (some ⟨g, 0, none⟩) n c] w (GotV n f w) := by
  have hmk := run_make4 28 39 Tryd.underlying28 Tryd.info39 n (by omega)
  have hnil := fun (wx : World) => @Lib.run_eql_slice_nil Tryd.prog wx 22 38 (some ⟨g, 0, none⟩) n c 0 0 Tryd.underlying22
  have hg := ho.lt
  go_enter Tryd.func9, Tryd.ntmps9
  go_wp2
  clear hmk hnil
  go_loopw [4, 12] (fun _ vi wr => ∃ k : Nat, k ≤ n ∧ vi = .int .i64 k ∧ Own 39 wr w.heap.size n (fill f k) ∧ Below w.heap.size w wr) (fun _ vi _ => n - (intOf vi).toNat)
  case atStart => exact ⟨0, Nat.zero_le _, rfl, fill_none f (made4 39 w n), (Below.refl _ _).alloc (Nat.le_refl _) _⟩
  case round =>
    obtain ⟨k, hk, rfl, hr, hbel⟩ := hrel
    by_cases hlt : k < n
    · obtain ⟨p0, p1, p2, p3⟩ := (ho.below hbel hg).cells (i := k) hlt
      obtain ⟨q0, q1, q2, q3⟩ := hr.cells (i := k) hlt
      obtain ⟨z0, z1, z2, z3⟩ := hr.room k
      generalize hy : f k = y at p0 p1 p2 p3
      have HY : Hid (f k = y) := hy
      clear hy
      generalize fill f k k = u at q0 q1 q2 q3
      have ik0 : (0 : Int) ≤ (k : Int) := by omega
      have ik1 : (k : Int) < (n : Int) := by omega
      have hne : g ≠ w.heap.size := by omega
      go_wp2
      go_region
      clear p0 p1 p2 p3 q0 q1 q2 q3 z0 z1 z2 z3
      go_wp2
      go_roundw
      case rel => exact ⟨k + 1, by omega, by go_num, fill_next HY.out (hr.set k y), (below_set4 hbel (Nat.le_refl _) _ _ _ _).drew⟩
      case measure => simp [intOf]; omega
    · go_wp2
      go_ret
      exact ⟨_, rfl, Or.inr ⟨_, rfl, Nat.le_refl _, fill_done (by omega) hr⟩, hbel⟩

theorem servs_any (B : Nat) (a : Option Addr) (n c : Nat) (f : Nat → Srv) (w : World) (hn : n ≤ 1048576) (hm : MemS B w a n f) : Calls Tryd.prog 9 #[.slice a n c] w (GotV n f w) := by
  rcases hm with ⟨rfl, rfl⟩ | ⟨g, rfl, _, ho⟩
  · exact servs_nil f c w
  · exact servs_own g n c f w hn ho
end Go.Proofs.Qxb6613060aDoor
