/-
  SEAT b6613060aD: the walk of AppendServers.
-/
import Derived.Test.Qxb6613060aDoorEncode
namespace Go.Proofs.Qxb6613060aDoor
open Go.ChangeShapes Go.WideShapes Go.ChangeAt Go.RowKit
set_option linter.unusedVariables false
set_option linter.unusedSimpArgs false

/-- a slice of servers: nil, or at the head of a row -/
def SrvS (w : World) (a : Option Addr) (n : Nat) (f : Nat → Srv) : Prop := (a = none ∧ n = 0) ∨ ∃ g, a = some ⟨g, 0, none⟩ ∧ Own 39 w g n f

theorem SrvS.pos {w : World} {a : Option Addr} {n : Nat} {f : Nat → Srv} (h : SrvS w a n f) (hn : 0 < n) : ∃ g, a = some ⟨g, 0, none⟩ ∧ Own 39 w g n f := by
  rcases h with ⟨_, h⟩ | h
  · omega
  · exact h

/-- the fields ahead of field j, written -/
def encF (x : Srv) : Nat → List UInt8
  | 0 => []
  | 1 => encStr x.id
  | 2 => encStr x.id ++ encStr x.addr
  | _ => encSrv x

theorem seg_succ (f : Nat → Srv) (n : Nat) : seg f 0 (n + 1) = seg f 0 n ++ [f n] := by
  rw [seg_append f (Nat.zero_le n) (Nat.le_succ n)]
  congr 1
  unfold seg
  rw [show n.succ - n = 1 by omega]
  rfl

theorem encSrvs_succ (f : Nat → Srv) (n : Nat) : encSrvs (seg f 0 (n + 1)) = encSrvs (seg f 0 n) ++ encSrv (f n) := by
  unfold encSrvs; rw [seg_succ, List.flatMap_append]; simp

theorem encSrvs_len {f : Nat → Srv} {k n : Nat} (h : k ≤ n) : (encSrvs (seg f 0 k)).length ≤ (encSrvs (seg f 0 n)).length := by
  induction n with
  | zero => rw [show k = 0 by omega]; exact Nat.le_refl _
  | succ n ih =>
    by_cases e : k = n + 1
    · subst e; exact Nat.le_refl _
    · rw [encSrvs_succ, List.length_append]
      have := ih (by omega)
      omega

theorem encF_len (x : Srv) (j : Nat) : (encF x j).length ≤ (encSrv x).length := by
  unfold encF encSrv
  match j with
  | 0 => simp
  | 1 => simp only [List.length_append]; omega
  | 2 => simp only [List.length_append]; omega
  | _ + 3 => exact Nat.le_refl _

theorem str_len (s : ByteArray) : s.data.toList.length = s.size := by rw [Array.length_toList]; rfl

theorem encStr_len (s : ByteArray) : (encStr s).length = (Lib.uvarint s.size).length + s.size := by
  unfold encStr; rw [List.length_append, str_len]

/-- the block of the three fields -/
def Three (w : World) (F : Nat) (x : Srv) : Prop := w.heap[F]? = some (.cells #[.string x.id, .string x.addr, .string x.api] 9 (0, 0))

theorem Three.keep {B F : Nat} {w w' : World} {x : Srv} (h : Three w F x) (hf : Fr B w w') : Three w' F x := by
  have hlt : F < w.heap.size := (Array.getElem?_eq_some_iff.1 h).1
  unfold Three
  rw [hf.not5 F hlt (fun cur fr hc => by rw [h] at hc; simp at hc)]
  exact h

theorem Three.cells {w : World} {F : Nat} {x : Srv} (h : Three w F x) : w.cell? ⟨F, 0, none⟩ = some (.string x.id) ∧ w.cell? ⟨F, 1, none⟩ = some (.string x.addr) ∧ w.cell? ⟨F, 2, none⟩ = some (.string x.api) :=
  ⟨by rw [cell_of_row _ _ _ _ _ _ h]; rfl, by rw [cell_of_row _ _ _ _ _ _ h]; rfl, by rw [cell_of_row _ _ _ _ _ _ h]; rfl⟩

set_option maxHeartbeats 4000000 in
set_option maxRecDepth 100000 in
theorem servers_own (B g n c : Nat) (f : Nat → Srv) (sv : Value) (l : List UInt8) (w : World) (hown : OwnB B w sv l) (hBw : B ≤ w.heap.size) (hn : n ≤ 1048576) (ho : Own 39 w g n f) (hlim : (l ++ encList (seg f 0 n)).length + 100 ≤ 140737488355328) :
    Calls Tryd.prog 16 #[sv, .slice (some ⟨g, 0, none⟩) n c] w fun e w' => ∃ v', e = .returned v' ∧ OwnB B w' v' (l ++ encList (seg f 0 n)) ∧ Fr B w w' := by
  have hL : l.length + (Lib.uvarint n).length + (encSrvs (seg f 0 n)).length + 100 ≤ 140737488355328 := by
    unfold encList at hlim; rw [seg_length, Nat.sub_zero] at hlim; simp only [List.length_append] at hlim; omega
  have HL : Hid (l.length + (Lib.uvarint n).length + (encSrvs (seg f 0 n)).length + 100 ≤ 140737488355328) := hL
  have hl10 : l.length + 10 ≤ 140737488355328 := by omega
  have hp := Lib.uvarint_pos n
  clear hlim hL hp
  go_enter Tryd.func16, Tryd.ntmps16
  go_wp2_with fail
  refine (uvarint_any B n (by omega) sv l _ hown hBw (by omega)).mono ?_
  rintro e w1 ⟨v1, rfl, hown1, hfr1⟩
  clear hown
  go_wp2
  go_loopw [0, 6, 8, 16, 28] (fun vb _ _ vi _ wr => ∃ k : Nat, k ≤ n ∧ vi = .int .i64 k ∧ OwnB B wr vb ((l ++ Lib.uvarint n) ++ encSrvs (seg f 0 k)) ∧ Fr B w wr) (fun _ _ _ vi _ _ => n - (intOf vi).toNat)
  case atStart => exact ⟨0, Nat.zero_le _, rfl, by unfold encSrvs; rw [seg_nil f (Nat.le_refl 0)]; simpa using hown1, hfr1⟩
  case round =>
    clear hown1 hfr1
    obtain ⟨k, hk, rfl, hown2, hfr2⟩ := hrel
    have hsz2 := hfr2.bel.size
    by_cases hlt : k < n
    · have ho2 := hfr2.own (by decide) ho
      have hg2 := ho2.lt
      obtain ⟨p0, p1, p2, p3⟩ := ho2.cells (i := k) hlt
      generalize hx : f k = x at p0 p1 p2 p3
      have HX : Hid (f k = x) := hx
      clear hx
      go_wp2
      have h3 : Three ((wr.alloc (.cells #[.string x.id, .string x.addr, .string x.api, .bool x.non] 39)).alloc (.cells #[.string x.id, .string x.addr, .string x.api] 9)) (wr.heap.size + 1) x := by
        have h := heap_alloc2_new wr (.cells #[.string x.id, .string x.addr, .string x.api, .bool x.non] 39) (.cells #[.string x.id, .string x.addr, .string x.api] 9)
        exact h
      have hfr3 : Fr B w ((wr.alloc (.cells #[.string x.id, .string x.addr, .string x.api, .bool x.non] 39)).alloc (.cells #[.string x.id, .string x.addr, .string x.api] 9)) := (hfr2.alloc (by omega) _).alloc (by simp; omega) _
      have hown3 : OwnB B ((wr.alloc (.cells #[.string x.id, .string x.addr, .string x.api, .bool x.non] 39)).alloc (.cells #[.string x.id, .string x.addr, .string x.api] 9)) u0 ((l ++ Lib.uvarint n) ++ encSrvs (seg f 0 k)) := (hown2.alloc _).alloc _
      have hk1 : (encSrvs (seg f 0 k)).length + (encSrv x).length ≤ (encSrvs (seg f 0 n)).length := by
        have h := encSrvs_len (f := f) (k := k + 1) (n := n) hlt
        rw [encSrvs_succ, List.length_append, HX.out] at h
        exact h
      have HK : Hid ((encSrvs (seg f 0 k)).length + (encSrv x).length ≤ (encSrvs (seg f 0 n)).length) := hk1
      generalize hP : (l ++ Lib.uvarint n) ++ encSrvs (seg f 0 k) = P at hown3
      have HP : Hid ((l ++ Lib.uvarint n) ++ encSrvs (seg f 0 k) = P) := hP
      have hlim : P.length + (encSrv x).length + 100 ≤ 140737488355328 := by
        have h := HL.out
        rw [← hP]; simp only [List.length_append]; omega
      clear p0 p1 p2 p3 hown2 hfr2 ho2 hg2 hk1 hP
      have hsz3 : wr.heap.size + 1 < ((wr.alloc (.cells #[.string x.id, .string x.addr, .string x.api, .bool x.non] 39)).alloc (.cells #[.string x.id, .string x.addr, .string x.api] 9)).heap.size := by simp
      revert h3 hfr3 hown3 hsz3
      generalize ((wr.alloc (.cells #[.string x.id, .string x.addr, .string x.api, .bool x.non] 39)).alloc (.cells #[.string x.id, .string x.addr, .string x.api] 9)) = w3
      intro h3 hfr3 hown3 hsz3
      generalize wr.heap.size + 1 = F at h3 hsz3
      have hB3 : B ≤ w3.heap.size := Nat.le_trans hBw hfr3.bel.size
      go_loopw [0, 8, 28] (fun vb _ vj wx => ∃ j : Nat, j ≤ 3 ∧ vj = .int .i64 j ∧ OwnB B wx vb (P ++ encF x j) ∧ Three wx F x ∧ Fr B w wx) (fun _ _ vj _ => 3 - (intOf vj).toNat)
      case atStart => exact ⟨0, by omega, rfl, by simpa [encF] using hown3, h3, hfr3⟩
      case round =>
        clear hown3 h3 hfr3 hsz3 hB3
        obtain ⟨j, hj, rfl, hown4, h4, hfr4⟩ := hrel
        have hB4 : B ≤ wr.heap.size := Nat.le_trans hBw hfr4.bel.size
        obtain ⟨q0, q1, q2⟩ := h4.cells
        have el0 := encStr_len x.id
        have el1 := encStr_len x.addr
        have el2 := encStr_len x.api
        have els : (encSrv x).length = (encStr x.id).length + ((encStr x.addr).length + (encStr x.api).length) := by unfold encSrv; simp only [List.length_append]
        rcases (show j = 0 ∨ j = 1 ∨ j = 2 ∨ j = 3 by omega) with rfl | rfl | rfl | rfl
        · have hpl : (P ++ encF x 0).length + x.id.size + 10 ≤ 140737488355328 := by
            have := Lib.uvarint_length64 (x := x.id.size) (by omega)
            simp only [encF, List.length_append, List.length_nil]; omega
          go_wp2_with fail
          refine (appendBytes_any B x.id _ (P ++ encF x 0) _ hown4 hB4 hpl).mono ?_
          rintro e w5 ⟨v5, rfl, hown5, hfr5⟩
          go_wp2
          go_roundw
          case rel => exact ⟨0 + 1, by omega, by go_num, by simpa [encF, encSrv, List.append_assoc] using hown5, h4.keep hfr5, hfr4.trans hfr5⟩
          case measure => simp [intOf]
        · have hpl : (P ++ encF x 1).length + x.addr.size + 10 ≤ 140737488355328 := by
            have := Lib.uvarint_length64 (x := x.addr.size) (by omega)
            simp only [encF, List.length_append, List.length_nil]; omega
          go_wp2_with fail
          refine (appendBytes_any B x.addr _ (P ++ encF x 1) _ hown4 hB4 hpl).mono ?_
          rintro e w5 ⟨v5, rfl, hown5, hfr5⟩
          go_wp2
          go_roundw
          case rel => exact ⟨1 + 1, by omega, by go_num, by simpa [encF, encSrv, List.append_assoc] using hown5, h4.keep hfr5, hfr4.trans hfr5⟩
          case measure => simp [intOf]
        · have hpl : (P ++ encF x 2).length + x.api.size + 10 ≤ 140737488355328 := by
            have := Lib.uvarint_length64 (x := x.api.size) (by omega)
            simp only [encF, List.length_append, List.length_nil]; omega
          go_wp2_with fail
          refine (appendBytes_any B x.api _ (P ++ encF x 2) _ hown4 hB4 hpl).mono ?_
          rintro e w5 ⟨v5, rfl, hown5, hfr5⟩
          go_wp2
          go_roundw
          case rel => exact ⟨2 + 1, by omega, by go_num, by simpa [encF, encSrv, List.append_assoc] using hown5, h4.keep hfr5, hfr4.trans hfr5⟩
          case measure => simp [intOf]
        · clear q0 q1 q2 el0 el1 el2 els
          go_wp2
          go_roundw
          case rel =>
            refine ⟨k + 1, by omega, by go_num, ?_, hfr4⟩
            rw [encSrvs_succ, HX.out, ← List.append_assoc, HP.out]
            exact hown4
          case measure => simp [intOf]; omega
    · go_wp2
      go_ret
      have e1 : k = n := by omega
      subst e1
      refine ⟨_, rfl, ?_, hfr2⟩
      unfold encList
      rw [seg_length, Nat.sub_zero, ← List.append_assoc]
      exact hown2

theorem servers_nil (B c : Nat) (f : Nat → Srv) (sv : Value) (l : List UInt8) (w : World) (hown : OwnB B w sv l) (hBw : B ≤ w.heap.size) (hlim : l.length + 100 ≤ 140737488355328) :
    Calls Tryd.prog 16 #[sv, .slice none 0 c] w fun e w' => ∃ v', e = .returned v' ∧ OwnB B w' v' (l ++ encList (seg f 0 0)) ∧ Fr B w w' := by
  go_enter Tryd.func16, Tryd.ntmps16
  go_wp2_with fail
  refine (uvarint_any B 0 (by omega) sv l _ hown hBw (by omega)).mono ?_
  rintro e w1 ⟨v1, rfl, hown1, hfr1⟩
  clear hown
  go_wp2
  refine wp_loop_rounds 1 ?_
  rw [rounds_succ]
  go_wp2
  go_ret
  refine ⟨_, rfl, ?_, hfr1⟩
  unfold encList encSrvs
  rw [seg_nil f (Nat.le_refl 0)]
  simpa using hown1

theorem servers_any (B n c : Nat) (a : Option Addr) (f : Nat → Srv) (sv : Value) (l : List UInt8) (w : World) (hown : OwnB B w sv l) (hBw : B ≤ w.heap.size) (hn : n ≤ 1048576) (ho : SrvS w a n f) (hlim : (l ++ encList (seg f 0 n)).length + 100 ≤ 140737488355328) :
    Calls Tryd.prog 16 #[sv, .slice a n c] w fun e w' => ∃ v', e = .returned v' ∧ OwnB B w' v' (l ++ encList (seg f 0 n)) ∧ Fr B w w' := by
  rcases ho with ⟨rfl, rfl⟩ | ⟨g, rfl, ho⟩
  · exact servers_nil B c f sv l w hown hBw (by simp only [List.length_append] at hlim; omega)
  · exact servers_own B g n c f sv l w hown hBw hn ho hlim
end Go.Proofs.Qxb6613060aDoor
