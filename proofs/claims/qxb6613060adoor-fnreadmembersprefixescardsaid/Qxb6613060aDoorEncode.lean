/-
  SEAT b6613060aD: the walks that write: AppendUvarint, AppendBytes, AppendServers.
-/
import Derived.Test.Qxb6613060aDoorBase
import Derived.Lib.VarintMem
import Derived.Lib.AppendStr
namespace Go.Proofs.Qxb6613060aDoor
open Go.ChangeShapes Go.WideShapes Go.ChangeAt Go.RowKit
set_option linter.unusedVariables false

/-! ### What is written -/
def encStr (s : ByteArray) : List UInt8 := Lib.uvarint s.size ++ s.data.toList
def encSrv (x : Srv) : List UInt8 := encStr x.id ++ (encStr x.addr ++ encStr x.api)
def encSrvs (l : List Srv) : List UInt8 := l.flatMap encSrv
def encList (l : List Srv) : List UInt8 := Lib.uvarint l.length ++ encSrvs l

/-! ### The frame of the byte rows: a block whose cells are no bytes stays as it was -/
def Not5 (w w' : World) : Prop := ∀ k, k < w.heap.size → (∀ cur fr, w.heap[k]? ≠ some (.cells cur 5 fr)) → w'.heap[k]? = w.heap[k]?

theorem Not5.refl (w : World) : Not5 w w := fun _ _ _ => rfl
theorem Not5.trans {a b c : World} (h : Not5 a b) (hs : a.heap.size ≤ b.heap.size) (k : Not5 b c) : Not5 a c := fun i hi hn => by
  have e := h i hi hn
  rw [k i (by omega) (by rw [e]; exact hn), e]
theorem Not5.alloc (w : World) (o : Obj) : Not5 w (w.alloc o) := fun k hk _ => Below.heap_alloc w o k hk
theorem Not5.of_below {w w' : World} (h : Below w.heap.size w w') : Not5 w w' := fun k hk _ => h.block k hk

/-- bytes owned from block B on -/
def OwnB (B : Nat) (w : World) (v : Value) (l : List UInt8) : Prop := w.ownsRow B 5 1 v l.length (Lib.byteCells l)

theorem not5_grown {B n : Nat} {w w' : World} {v : Value} {xs : List Value} (h : w.ownsRow B 5 1 v n xs) (hg : w.grownBy w' v.ownBlock) : Not5 w w' := by
  intro k hk hn
  refine hg.block k hk fun e => ?_
  rcases h.2 with ⟨rfl, _⟩ | ⟨g, cap, cur, rfl, _, hh, _⟩
  · simp [Value.ownBlock] at e
  · simp only [Value.ownBlock, Option.some.injEq] at e
    subst e
    exact hn cur (0, 0) hh

/-- both frames of a byte row that grows -/
structure Fr (B : Nat) (w w' : World) : Prop where
  bel : Below B w w'
  not5 : Not5 w w'

theorem Fr.refl (B : Nat) (w : World) : Fr B w w := ⟨Below.refl _ _, Not5.refl _⟩
theorem Fr.trans {B : Nat} {a b c : World} (h : Fr B a b) (k : Fr B b c) : Fr B a c := ⟨h.bel.trans k.bel, h.not5.trans h.bel.size k.not5⟩
theorem Fr.alloc {B : Nat} {a w : World} (h : Fr B a w) (hB : B ≤ w.heap.size) (o : Obj) : Fr B a (w.alloc o) := h.trans ⟨(Below.refl _ _).alloc hB o, Not5.alloc _ _⟩
theorem Fr.grown {B n : Nat} {a w w' : World} {v : Value} {xs : List Value} (h : Fr B a w) (hB : B ≤ w.heap.size) (ho : w.ownsRow B 5 1 v n xs) (hg : w.grownBy w' v.ownBlock) : Fr B a w' :=
  h.trans ⟨(Below.refl _ _).grown hg hB (fun k hk => (ho.lt k hk).1), not5_grown ho hg⟩
theorem Fr.own {B : Nat} {e : TypeId} {w w' : World} {g n : Nat} {f : Nat → Srv} (h : Fr B w w') (he : e ≠ 5) (ho : Own e w g n f) : Own e w' g n f := by
  refine ho.of_block (h.not5 g ho.lt fun cur fr hc => ?_)
  obtain ⟨c, h1, _⟩ := ho
  rw [h1] at hc
  simp at hc
  exact he hc.2.1

theorem Tryd.info5 : (Tryd.prog.info? 5).map (fun i => (i.zero, i.size, i.bytes)) = some (some (.int .u8 0), 1, 1) := by kernel_rfl

set_option maxHeartbeats 4000000 in
set_option maxRecDepth 100000 in
theorem uvarint_any (B x : Nat) (hx : x < 18446744073709551616) (sv : Value) (l : List UInt8) (w : World) (hown : OwnB B w sv l) (hBw : B ≤ w.heap.size) (hlim : l.length + 10 ≤ 140737488355328) :
    Calls Tryd.prog 25 #[sv, .int .u64 x] w fun e w' => ∃ v', e = .returned v' ∧ OwnB B w' v' (l ++ Lib.uvarint x) ∧ Fr B w w' := by
  obtain ⟨i0, hi, hz0, hz1, hz2⟩ := info_parts Tryd.info5
  have hlen := Lib.uvarint_length64 hx
  go_enter Tryd.func25, Tryd.ntmps25
  go_wp2
  go_loopw [0, 1] (fun vb vx wr => ∃ (y : Nat) (pre : List UInt8), vx = .int .u64 y ∧ y ≤ x ∧ Lib.uvarint x = pre ++ Lib.uvarint y ∧ wr.ownsRow B 5 1 vb (l.length + pre.length) (Lib.byteCells l ++ Lib.byteCells pre) ∧ Fr B w wr)
    (fun _ vx _ => (intOf vx).toNat)
  case atStart => exact ⟨x, [], rfl, Nat.le_refl _, rfl, by have h := hown; unfold OwnB at h; simpa [Lib.byteCells] using h, Fr.refl _ _⟩
  case round =>
    obtain ⟨y, pre, rfl, hy, hsplit, hown1, hfr⟩ := hrel
    have hpl : pre.length + (Lib.uvarint y).length ≤ 10 := by
      have h2 := congrArg List.length hsplit
      rw [List.length_append] at h2
      omega
    have hyp := Lib.uvarint_pos y
    have hsz := hfr.bel.size
    by_cases h128 : 128 ≤ y
    · have hor : bits .or .u8 ((y : Int) % 256) 128 = ((y % 128 + 128 : Nat) : Int) := by
        rw [Lib.u8_or128_any _ (by omega) (by omega)]
        omega
      go_wp2_with (at_builtin; refine wpList_append_own _ rfl _ _ 26 rfl B 5 i0 (.int .u8 0) 1 1 Tryd.underlying26 hi hz0 hz1 hz2 rfl (by decide) _ _ _ rfl (hown1.alloc _) ⟨wr.heap.size, 0, none⟩ 1 1 [Value.int .u8 ((y % 128 + 128 : Nat) : Int)] rfl rfl ?c1 ?c2 ?c3 ?c4 ?c5 ?_)
      case c1 =>
        intro j u hj
        match j, hj with
        | 0, hj => simp at hj; subst hj; simp [Addr.add]
      case c2 => intro u hu; simp at hu; subst hu; rfl
      case c3 => unfold maxLen; omega
      case c4 => omega
      case c5 => simp; omega
      intro v' w1 hown' hgrow _
      have hfr1 : Fr B w w1 := (hfr.alloc (by omega) _).grown (by simp; omega) (hown1.alloc _) hgrow
      go_wp2
      go_roundw
      case rel =>
        refine ⟨y / 128, pre ++ [(y % 128 + 128).toUInt8], by go_num, by omega, by rw [hsplit, Lib.uvarint_big h128]; simp, ?_, hfr1⟩
        have ec : ((y % 128 + 128 : Nat) : Int) = (y : Int) % 128 + 128 := by omega
        rw [Lib.byteCells_snoc pre (by omega), List.length_append, List.length_singleton, ← Nat.add_assoc, ec]
        simpa using hown'
      case measure => simp [intOf]; omega
    · have hsm : Lib.uvarint y = [y.toUInt8] := Lib.uvarint_small (by omega)
      go_wp2_with (at_builtin; refine wpList_append_own _ rfl _ _ 26 rfl B 5 i0 (.int .u8 0) 1 1 Tryd.underlying26 hi hz0 hz1 hz2 rfl (by decide) _ _ _ rfl (hown1.alloc _) ⟨wr.heap.size, 0, none⟩ 1 1 [Value.int .u8 (y : Int)] rfl rfl ?c1 ?c2 ?c3 ?c4 ?c5 ?_)
      case c1 =>
        intro j u hj
        match j, hj with
        | 0, hj => simp at hj; subst hj; simp [Addr.add]
      case c2 => intro u hu; simp at hu; subst hu; rfl
      case c3 => unfold maxLen; omega
      case c4 => omega
      case c5 => simp; omega
      intro v' w1 hown' hgrow _
      have hfr1 : Fr B w w1 := (hfr.alloc (by omega) _).grown (by simp; omega) (hown1.alloc _) hgrow
      go_wp2
      go_ret
      refine ⟨v', rfl, ?_, hfr1⟩
      unfold OwnB
      rw [hsplit, hsm, Lib.byteCells_append, Lib.byteCells_snoc pre (by omega)]
      simpa [Nat.add_assoc] using hown'

set_option maxHeartbeats 1000000 in
theorem appendBytes_any (B : Nat) (s : ByteArray) (sv : Value) (l : List UInt8) (w : World) (hown : OwnB B w sv l) (hBw : B ≤ w.heap.size) (hlim : l.length + s.size + 10 ≤ 140737488355328) :
    Calls Tryd.prog 26 #[sv, .string s] w fun e w' => ∃ v', e = .returned v' ∧ OwnB B w' v' (l ++ encStr s) ∧ Fr B w w' := by
  obtain ⟨i0, hi, hz0, hz1, hz2⟩ := info_parts Tryd.info5
  have hs0 : (s.size : Int) < 18446744073709551616 := by omega
  go_enter Tryd.func26, Tryd.ntmps26
  go_wp2_with fail
  refine (uvarint_any B s.size (by omega) sv l _ hown hBw (by omega)).mono ?_
  rintro e w1 ⟨v1, rfl, hown1, hfr1⟩
  have hlen := Lib.uvarint_length64 (x := s.size) (by omega)
  have hsz := hfr1.bel.size
  go_wp2_with (at_builtin; refine Lib.wpList_append_own_string _ rfl _ _ 26 9 rfl B 5 i0 Tryd.underlying26 Tryd.underlying9 hi hz0 hz1 hz2 _ _ _ rfl hown1 s rfl ?c1 ?c2 ?c3 ?_)
  case c1 => unfold maxLen; simp; omega
  case c2 => simp; omega
  case c3 => omega
  intro v' w2 hown2 hgrow _
  have hfr2 : Fr B w w2 := hfr1.grown (by omega) hown1 hgrow
  go_wp2
  go_ret
  refine ⟨v', rfl, ?_, hfr2⟩
  unfold OwnB encStr
  rw [Lib.strCells_eq, ← Lib.byteCells_append] at hown2
  simpa [List.append_assoc, Nat.add_assoc] using hown2
end Go.Proofs.Qxb6613060aDoor
