/-
  SEAT b6613060aD: the walk of ReadServers.
-/
import Derived.Test.Qxb6613060aDoorDecode
import Derived.Test.Qxb6613060aDoorSplit
import Derived.Test.Qxb6613060aDoorStable
import Derived.Deep.RegionHeld3
import Derived.Deep.AppendLies
import Derived.BigQuiet
namespace Go.Proofs.Qxb6613060aDoor
open Go.ChangeShapes Go.WideShapes Go.ChangeAt Go.RowKit
set_option linter.unusedVariables false

/-! ### The plain reader -/
def dfield (s : DSt) : List UInt8 × DSt := dby (duv s).1 (duv s).2
def dsrv (s : DSt) : Srv × DSt :=
  (⟨⟨(dfield s).1.toArray⟩, ⟨(dfield (dfield s).2).1.toArray⟩, ⟨(dfield (dfield (dfield s).2).2).1.toArray⟩, false⟩, (dfield (dfield (dfield s).2).2).2)
def dlist : Nat → DSt → List Srv → List Srv × DSt
  | 0, s, acc => (acc, s)
  | n + 1, s, acc => if s.2 = true then dlist n (dsrv s).2 (acc ++ [(dsrv s).1]) else (acc, s)
def rsv (s : DSt) : (List Srv × Bool) × DSt :=
  if (dct s).2.2 = true ∧ (dct s).1 ≤ 5461 then (((dlist (dct s).1 (dct s).2 []).1, (dlist (dct s).1 (dct s).2 []).2.2), (dlist (dct s).1 (dct s).2 []).2) else (([], false), (dct s).2)

theorem dlist_succ (n : Nat) (s : DSt) (acc : List Srv) (hs : s.2 = true) : dlist (n + 1) s acc = dlist n (dsrv s).2 (acc ++ [(dsrv s).1]) := by
  rw [dlist, if_pos hs]

theorem conv_at {w : World} {g : Nat} {ad : Option Addr} {l : List UInt8} (h : At w g ad l) (cap : Nat) : (convert 26 9 (.slice ad l.length cap)).run Tryd.prog w = .ok (.string ⟨l.toArray⟩) w := by
  cases ad with
  | none =>
    rcases h with rfl | ⟨o, e, _⟩
    · exact run_convert_bytes_nil w 26 5 Tryd.underlying26 Tryd.underlying5 0 cap 9 Tryd.underlying9
    · cases e
  | some a =>
    rcases h with rfl | ⟨o, e, hc⟩
    · rw [List.length_nil, run_convert_bytes_string w 26 9 5 _ _ _ Tryd.underlying26 Tryd.underlying5 Tryd.underlying9, run_bytesToString w a 0 cap [] (by simp [loadCells, loadCellsFrom])]
      rfl
    · cases e
      have h1 := run_convert_bytes_arg w 26 5 Tryd.underlying26 Tryd.underlying5 g o l.length cap (l.map fun b => (b.toNat : Int)) (by simp) (fun i hi => by rw [hc i hi]; simp [hi]) 9 Tryd.underlying9
      rw [h1]
      congr 2
      unfold strOfNums
      congr 1
      simp only [List.map_map]
      congr 1
      conv => rhs; rw [← List.map_id l]
      apply List.map_congr_left
      intro b _
      simp

theorem At.conv {w : World} {g : Nat} {ad : Option Addr} {l : List UInt8} (h : At w g ad l) (cap : Nat) {H : Option Obj} (hH : w.heap[g]? = H) : ∀ W : World, W.heap[g]? = H → Sem.run Tryd.prog (convert 26 9 (.slice ad l.length cap)) W = .ok (.string ⟨l.toArray⟩) W :=
  fun W hW => conv_at (h.of_block (by rw [hW, hH])) cap


theorem Dec.drew {w : World} {b g : Nat} {t : TypeId} {x : Value} {s : DSt} (h : Dec w b g t x s) : Dec w.drew b g t x s := ⟨h.ne, h.ne0, h.eof, h.blk, h.len, h.pay⟩
theorem Dec.drewN {w : World} {b g n : Nat} {t : TypeId} {x : Value} {s : DSt} (h : Dec w b g t x s) : Dec (w.drewN n) b g t x s := ⟨h.ne, h.ne0, h.eof, h.blk, h.len, h.pay⟩

theorem grown_g {w w' : World} {b g : Nat} (hg : w.grownBy w' (some b)) (hne : b ≠ g) {H : Option Obj} (hH : w.heap[g]? = H) (hs : H.isSome = true) : w'.heap[g]? = H := by
  rw [← hH]
  refine hg.block g ?_ (fun e => hne (by simpa using e.symm))
  rw [← hH] at hs
  by_cases h : g < w.heap.size
  · exact h
  · simp [h] at hs

theorem g_alloc {w : World} {g : Nat} {H : Option Obj} {o : Obj} (hH : w.heap[g]? = H) (hs : H.isSome = true) : (w.alloc o).heap[g]? = H := by
  rw [← hH]
  refine Below.heap_alloc w o g ?_
  rw [← hH] at hs
  by_cases h : g < w.heap.size
  · exact h
  · simp [h] at hs

theorem OwnL.grown {B : Nat} {w w' : World} {v : Value} {l : List Srv} {b : Nat} (h : OwnL B w v l) (hg : w.grownBy w' (some b)) (hb : b < B) : OwnL B w' v l :=
  World.ownsRow.kept h hg (by
    cases hv : v.ownBlock with
    | none => exact Or.inl rfl
    | some k => exact Or.inr fun e => by have := (h.lt k hv).1; simp at e; omega)

theorem OwnL.drewN {B n : Nat} {w : World} {v : Value} {l : List Srv} (h : OwnL B w v l) : OwnL B (w.drewN n) v l := h

/-- what ReadServers hands back, and what it leaves -/
def GotS (b g : Nat) (t : TypeId) (x : Value) (r : (List Srv × Bool) × DSt) (w : World) (e : Ending) (w' : World) : Prop :=
  ∃ v, e = .returned (.tuple #[v, .bool r.1.2]) ∧ OwnL w.heap.size w' v r.1.1 ∧ Dec w' b g t x r.2 ∧ w.grownBy w' (some b)

theorem Dec.err {w : World} {b g : Nat} {t : TypeId} {x : Value} {s : DSt} (h : Dec w b g t x s) (hs : s.2 = true) : w.cell? ⟨b, 1, none⟩ = some .nilIface := by
  obtain ⟨_, _, _, h1, _⟩ := h.cells
  rw [hs] at h1
  simpa using h1
theorem Dec.err' {w : World} {b g : Nat} {t : TypeId} {x : Value} {s : DSt} (h : Dec w b g t x s) (hs : s.2 = false) : w.cell? ⟨b, 1, none⟩ = some (.iface t x) := by
  obtain ⟨_, _, _, h1, _⟩ := h.cells
  rw [hs] at h1
  simpa using h1

theorem some_of_lt {w : World} {g : Nat} (h : g < w.heap.size) : (w.heap[g]?).isSome = true := by simp [h]

set_option maxHeartbeats 4000000 in
set_option maxRecDepth 100000 in
theorem read_servers (b g : Nat) (t : TypeId) (x : Value) (s : DSt) (w : World) (hD : Dec w b g t x s) :
    Calls Tryd.prog 19 #[.pointer (some ⟨b, 0, none⟩)] w (GotS b g t x (rsv s) w) := by
  obtain ⟨i0, hi, hz0, hz1, hz2⟩ := info_parts Tryd.info39
  have hbw : b < w.heap.size := hD.lt
  have hgw : g < w.heap.size := hD.pay
  have hne : b ≠ g := hD.ne
  have hb0 : b ≠ 0 := hD.ne0
  go_enter Tryd.func19, Tryd.ntmps19
  go_wp2_with fail
  refine (dct_any b g t x s _ hD).mono ?_
  rintro e w1 ⟨rfl, hD1, hg1⟩
  clear hD
  obtain ⟨⟨n, s0⟩, hs⟩ : ∃ p, p = dct s := ⟨_, rfl⟩
  have hrsv : rsv s = if s0.2 = true ∧ n ≤ 5461 then (((dlist n s0 []).1, (dlist n s0 []).2.2), (dlist n s0 []).2) else (([], false), s0) := by unfold rsv; rw [← hs]
  rw [← hs] at hD1 ⊢
  have HR : Hid (rsv s = if s0.2 = true ∧ n ≤ 5461 then (((dlist n s0 []).1, (dlist n s0 []).2.2), (dlist n s0 []).2) else (([], false), s0)) := hrsv
  clear hrsv hs
  simp only at hD1 ⊢
  cases hok : s0.2
  · have h1 := hD1.err' hok
    go_wp2_with (go_at_call 28; refine (err_any b _ _ h1 (Or.inr ⟨_, _, rfl⟩)).mono ?_; rintro e w' ⟨rfl, rfl⟩)
    go_ret2
    rw [HR.out, if_neg (by rw [hok]; simp)]
    exact ⟨_, rfl, OwnL.nil _ _, hD1, hg1⟩
  · have h1 := hD1.err hok
    have HO : Hid (s0.2 = true) := hok
    clear hok
    by_cases hn : n ≤ 5461
    · go_wp2_with (go_at_call 28; refine (err_any b _ _ h1 (Or.inl rfl)).mono ?_; rintro e w' ⟨rfl, rfl⟩)
      clear h1
      go_loopw [5, 6] (fun vs vi wr => ∃ (i : Nat) (acc : List Srv) (st : DSt), i ≤ n ∧ acc.length ≤ i ∧ vi = .int .i64 i ∧ Hid (dlist (n - i) st acc = dlist n s0 []) ∧ OwnL w.heap.size wr vs acc ∧ Dec wr b g t x st ∧ w.grownBy wr (some b)) (fun _ vi _ => n - (intOf vi).toNat)
      case atStart => exact ⟨0, [], s0, Nat.zero_le _, Nat.le_refl _, rfl, (rfl : dlist (n - 0) s0 [] = _), OwnL.nil _ _, hD1, hg1⟩
      case round =>
        clear hD1 hg1
        obtain ⟨i, acc, st, hi', hal, rfl, HL, hown, hDr, hgr⟩ := hrel
        have fin : ∀ (W : World) (ok : Bool), st.2 = ok → (i = n ∨ st.2 = false) → OwnL w.heap.size W u5 acc → Dec W b g t x st → w.grownBy W (some b) → ∀ e, e = .returned (.tuple #[u5, .bool ok]) → GotS b g t x (rsv s) w e W := by
          intro W ok ho hend h1 h2 h3 e he
          have hl : dlist n s0 [] = (acc, st) := by
            rw [← HL.out]
            rcases hend with rfl | hf
            · rw [Nat.sub_self]; rfl
            · cases n - i with
              | zero => rfl
              | succ k => unfold dlist; rw [if_neg (by rw [hf]; simp)]
          rw [HR.out, if_pos ⟨HO.out, hn⟩, hl]
          subst ho
          exact ⟨u5, he, h1, h2, h3⟩
        have FIN : Hid (∀ (W : World) (ok : Bool), st.2 = ok → (i = n ∨ st.2 = false) → OwnL w.heap.size W u5 acc → Dec W b g t x st → w.grownBy W (some b) → ∀ e, e = .returned (.tuple #[u5, .bool ok]) → GotS b g t x (rsv s) w e W) := fin
        clear fin
        by_cases hlt : i < n
        · cases hst : st.2
          · have h1 := hDr.err' hst
            have HST : Hid (st.2 = false) := hst
            clear hst
            go_wp2_with (go_at_call 28; refine (err_any b _ _ h1 (Or.inr ⟨_, _, rfl⟩)).mono ?_; rintro e w' ⟨rfl, rfl⟩)
            go_quiet ((go_at_call 28; exact Calls.quiet_of_same (err_any b _ _ h1 (Or.inr ⟨_, _, rfl⟩))))
            go_wp2
            go_ret2
            exact FIN.out _ _ HST.out (Or.inr HST.out) hown.drewN hDr.drewN (grownBy_drewN hgr) _ rfl
          · have h1 := hDr.err hst
            have HST : Hid (st.2 = true) := hst
            clear hst
            go_wp2_with (go_at_call 28; refine (err_any b _ _ h1 (Or.inl rfl)).mono ?_; rintro e w' ⟨rfl, rfl⟩)
            obtain ⟨H, hH⟩ : ∃ H, w'.heap[g]? = H := ⟨_, rfl⟩
            have hDd := hDr.drew
            have hgd := grownBy_drew hgr
            have hownd : OwnL w.heap.size w'.drew u5 acc := hown
            have hHd : w'.drew.heap[g]? = H := hH
            have hHs : H.isSome = true := by rw [← hH]; exact some_of_lt hDr.pay
            clear hDr hgr hown hH h1 FIN
            go_region_held3 (fun W => W.heap[g]? = H) (first | assumption | exact g_alloc (by assumption) hHs)
              ((first
                | (go_at_call 30; refine (duv_any b g t x _ _ (by assumption)).mono ?_; rintro e w3 ⟨rfl, hD3, hg3⟩; have hp3 : w3.heap[g]? = H := grown_g hg3 hne (by assumption) hHs; have ho3 : OwnL w.heap.size w3 u5 acc := OwnL.grown (by assumption) hg3 hbw; have hgg3 : w.grownBy w3 (some b) := World.grownBy.trans' (by assumption) hg3)
                | (go_at_call 29; refine (dby_any b g _ t x _ _ (by assumption) (duv_lt _)).mono ?_; rintro e w4 ⟨ad4, cap4, rfl, hat4, hD4, hg4⟩; have hp4 : w4.heap[g]? = H := grown_g hg4 hne (by assumption) hHs; have ho4 : OwnL w.heap.size w4 u5 acc := OwnL.grown (by assumption) hg4 hbw; have hgg4 : w.grownBy w4 (some b) := World.grownBy.trans' (by assumption) hg4; have kc4 := hat4.conv cap4 hp4)
                | (refine step_append_lies _ (by rfl) _ _ _ (by rfl) w.heap.size 39 i0 _ 4 56 Tryd.underlying28 hi hz0 hz1 hz2 rfl (by decide) _ _ _ (by rfl) (World.ownsRow.alloc (by assumption) _) ⟨w4.heap.size, 0, none⟩ 1 1 (cells4 (dsrv st).1) (by rfl) (by rfl) (by exact cells_four_new _ (dsrv st).1 39) (cells4_one _) (by omega) (by unfold maxLen; omega) (by omega) (by have := hgg4.size; simp; omega) (w4.heap.size + 1) (by simp) ?_; intro gg capg w5 hown5 hgrow5 hat5 hlt5; have hp5 : w5.heap[g]? = H := by
                      have hlt := ho4.lt
                      rw [← g_alloc (o := .cells #[.string (dsrv st).1.id, .string (dsrv st).1.addr, .string (dsrv st).1.api, .bool (dsrv st).1.non] 39) hp4 hHs]
                      exact hgrow5.block g (by have := hgg4.size; simp; omega) (fun e => by have := (hlt g e.symm).1; omega))))
            have hrow : ∀ k, k < w.heap.size → some k ≠ u5.ownBlock := fun k hk e => by have := (ho4.lt k e.symm).1; omega
            have hDa : Dec w5 b g t x (dsrv st).2 := by
              have h1 : Dec (w4.alloc (.cells #[.string (dsrv st).1.id, .string (dsrv st).1.addr, .string (dsrv st).1.api, .bool (dsrv st).1.non] 39)) b g t x (dsrv st).2 :=
                Dec.of_grown (row := none) hD4 (World.grownBy_alloc _ _ _) (by simp) (by simp) (by simp)
              exact h1.of_grown hgrow5 (hrow b hbw) (hrow g hgw) (hrow 0 (by omega))
            have hga : w.grownBy w5 (some b) := by
              refine ⟨hgrow5.os.trans hgg4.os, hgrow5.tape.trans hgg4.tape, hgrow5.output.trans hgg4.output, Nat.le_trans (Nat.le_trans hgg4.size (by simp)) hgrow5.size, fun k hk hkb => ?_⟩
              rw [hgrow5.block k (by have := hgg4.size; simp; omega) (hrow k hk), Below.heap_alloc _ _ _ (by have := hgg4.size; omega)]
              exact hgg4.block k hk hkb
            clear hD4 hat4 kc4 hg4 hp4 hgg4 hgrow5 hat5 hp5 hrow
            go_wp2
            go_roundw
            case rel =>
              refine ⟨i + 1, acc ++ [(dsrv st).1], (dsrv st).2, by omega, by simp; omega, by go_num, ?_, ?_, hDa, hga⟩
              · show _ = _
                have h := HL.out
                rw [show n - i = (n - (i + 1)) + 1 by omega] at h
                rw [dlist_succ _ _ _ HST.out] at h
                exact h
              · unfold OwnL
                rw [flat4_snoc, List.length_append, List.length_singleton]
                exact hown5
            case measure => simp [intOf]; omega
        · have hin : i = n := by omega
          cases hst : st.2
          · have h1 := hDr.err' hst
            have HST : Hid (st.2 = false ∧ i = n) := ⟨hst, hin⟩
            clear hst hin
            go_wp2
            go_quiet ((go_at_call 28; exact Calls.quiet_of_same (err_any b _ _ h1 (Or.inr ⟨_, _, rfl⟩))))
            go_wp2
            go_ret2
            exact FIN.out _ _ HST.out.1 (Or.inr HST.out.1) hown.drewN hDr.drewN (grownBy_drewN hgr) _ rfl
          · have h1 := hDr.err hst
            have HST : Hid (st.2 = true ∧ i = n) := ⟨hst, hin⟩
            clear hst hin
            go_wp2
            go_quiet ((go_at_call 28; exact Calls.quiet_of_same (err_any b _ _ h1 (Or.inl rfl))))
            go_wp2
            go_ret2
            exact FIN.out _ _ HST.out.1 (Or.inl HST.out.2) hown.drewN hDr.drewN (grownBy_drewN hgr) _ rfl
    · go_wp2_with (go_at_call 28; refine (err_any b _ _ h1 (Or.inl rfl)).mono ?_; rintro e w' ⟨rfl, rfl⟩)
      go_ret2
      rw [HR.out, if_neg (by omega)]
      exact ⟨_, rfl, OwnL.nil _ _, hD1, hg1⟩
end Go.Proofs.Qxb6613060aDoor
