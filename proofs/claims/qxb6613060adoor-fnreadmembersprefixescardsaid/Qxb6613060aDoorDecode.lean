/-
  SEAT b6613060aD: the walks of the Decoder's methods.
-/
import Derived.Test.Qxb6613060aDoorBase
import Derived.Test.Qxb6613060aDoorShelf
import Derived.Lib.VarintMem
namespace Go.Proofs.Qxb6613060aDoor
open Go.ChangeShapes Go.WideShapes Go.ChangeAt Go.RowKit
set_option linter.unusedVariables false

theorem err_any (b : Nat) (v : Value) (w : World) (h1 : w.cell? ⟨b, 1, none⟩ = some v) (hv : v = .nilIface ∨ ∃ t x, v = .iface t x) :
    Calls Tryd.prog 28 #[.pointer (some ⟨b, 0, none⟩)] w fun e w' => e = .returned v ∧ w' = w := by
  rcases hv with rfl | ⟨t, x, rfl⟩
  all_goals
    go_enter Tryd.func28, Tryd.ntmps28
    go_wp2
    go_ret
    exact ⟨rfl, rfl⟩

theorem rest_any (b : Nat) (a : Option Addr) (n c : Nat) (w : World) (h0 : w.cell? ⟨b, 0, none⟩ = some (.slice a n c)) :
    Calls Tryd.prog 20 #[.pointer (some ⟨b, 0, none⟩)] w fun e w' => e = .returned (.slice a n c) ∧ w' = w := by
  go_enter Tryd.func20, Tryd.ntmps20
  go_wp2
  go_ret
  exact ⟨rfl, rfl⟩

theorem newDecoder_any (a : Option Addr) (n c : Nat) (w : World) :
    Calls Tryd.prog 11 #[.slice a n c] w fun e w' => e = .returned (.pointer (some ⟨w.heap.size, 0, none⟩)) ∧ w' = w.alloc (.cells #[.slice a n c, .nilIface] 50) := by
  go_enter Tryd.func11, Tryd.ntmps11
  go_wp2
  go_ret
  exact ⟨rfl, rfl⟩


/-! ### The plain Decoder: what is left, and whether no read has failed -/
abbrev DSt := List UInt8 × Bool

def duv (s : DSt) : Nat × DSt :=
  if s.2 then (if (Lib.uvarintDec s.1).2 ≤ 0 then (0, (s.1, false)) else ((Lib.uvarintDec s.1).1, (s.1.drop (Lib.uvarintDec s.1).2.toNat, true))) else (0, s)

def dby (n : Nat) (s : DSt) : List UInt8 × DSt :=
  if s.2 = true ∧ n ≤ s.1.length then (s.1.take n, (s.1.drop n, true)) else ([], (s.1, false))

def dct (s : DSt) : Nat × DSt :=
  if (duv s).2.2 = true ∧ (duv s).1 ≤ (duv s).2.1.length / 3 then duv s else (0, ((duv s).2.1, false))

theorem uvFrom_le : ∀ (l : List UInt8) (i acc : Nat), (Lib.uvarintFrom i acc l).2 ≤ ((i + l.length : Nat) : Int)
  | [], i, acc => by simp [Lib.uvarintFrom]
  | b :: r, i, acc => by
    unfold Lib.uvarintFrom
    by_cases h1 : i = 10
    · rw [if_pos h1]; simp only [List.length_cons]; omega
    · rw [if_neg h1]
      by_cases h2 : b.toNat < 128
      · rw [if_pos h2]
        by_cases h3 : i = 9 ∧ 1 < b.toNat
        · rw [if_pos h3]; simp only [List.length_cons]; omega
        · rw [if_neg h3]; simp only [List.length_cons]; omega
      · rw [if_neg h2]
        have := uvFrom_le r (i + 1) (acc + b.toNat % 128 * 2 ^ (7 * i))
        simp only [List.length_cons]
        omega

theorem uvDec_le (l : List UInt8) : (Lib.uvarintDec l).2 ≤ (l.length : Int) := by
  have := uvFrom_le l 0 0
  unfold Lib.uvarintDec
  simpa using this

theorem duv_len (s : DSt) : (duv s).2.1.length ≤ s.1.length := by
  unfold duv
  by_cases h : s.2 = true
  · rw [if_pos h]
    by_cases k : (Lib.uvarintDec s.1).2 ≤ 0
    · rw [if_pos k]; exact Nat.le_refl _
    · rw [if_neg k]; simp
  · rw [if_neg h]; exact Nat.le_refl _

theorem duv_lt (s : DSt) : (duv s).1 < 18446744073709551616 := by
  unfold duv
  by_cases h : s.2 = true
  · rw [if_pos h]
    by_cases k : (Lib.uvarintDec s.1).2 ≤ 0
    · rw [if_pos k]; simp only; omega
    · rw [if_neg k]; exact Lib.uvarintDec_lt s.1
  · rw [if_neg h]; simp only; omega

/-! ### The Decoder in memory -/
/-- the bytes l lie at the address ad, in block g -/
def At (w : World) (g : Nat) (ad : Option Addr) (l : List UInt8) : Prop := l = [] ∨ ∃ o, ad = some ⟨g, o, none⟩ ∧ ∀ j (hj : j < l.length), w.cell? ⟨g, o + j, none⟩ = some (.int .u8 (l[j]).toNat)

theorem At.drop {w : World} {g : Nat} {ad : Option Addr} {l : List UInt8} (h : At w g ad l) (k : Nat) : At w g (ad.map (·.add k)) (l.drop k) := by
  rcases h with rfl | ⟨o, rfl, hc⟩
  · exact Or.inl (by simp)
  · refine Or.inr ⟨o + k, by simp [Addr.add], fun j hj => ?_⟩
    have h1 : k + j < l.length := by simp at hj; omega
    rw [show o + k + j = o + (k + j) by omega, hc (k + j) h1]
    simp

theorem At.take {w : World} {g : Nat} {ad : Option Addr} {l : List UInt8} (h : At w g ad l) (k : Nat) : At w g ad (l.take k) := by
  rcases h with rfl | ⟨o, rfl, hc⟩
  · exact Or.inl (by simp)
  · refine Or.inr ⟨o, rfl, fun j hj => ?_⟩
    have h1 : j < l.length := by simp at hj; omega
    rw [hc j h1]
    simp

theorem At.of_block {w w' : World} {g : Nat} {ad : Option Addr} {l : List UInt8} (h : At w g ad l) (hb : w'.heap[g]? = w.heap[g]?) : At w' g ad l := by
  rcases h with rfl | ⟨o, rfl, hc⟩
  · exact Or.inl rfl
  · exact Or.inr ⟨o, rfl, fun j hj => (World.cell?_of_block (w := w) (a := ⟨g, o + j, none⟩) hb).trans (hc j hj)⟩

/-- where Go keeps io.ErrUnexpectedEOF, and what it holds: an error that is not nil -/
structure Eof (w : World) (t : TypeId) (x : Value) : Prop where
  cell : w.cell? ⟨0, 0, none⟩ = some (.iface t x)

/-- the Decoder's block -/
structure Dec (w : World) (b g : Nat) (t : TypeId) (x : Value) (s : DSt) : Prop where
  ne : b ≠ g
  ne0 : b ≠ 0
  eof : w.cell? ⟨0, 0, none⟩ = some (.iface t x)
  blk : ∃ ad cap, w.heap[b]? = some (.cells #[.slice ad s.1.length cap, if s.2 then .nilIface else .iface t x] 50 (0, 0)) ∧ s.1.length ≤ cap ∧ At w g ad s.1
  len : s.1.length ≤ 140737488355328
  pay : g < w.heap.size

theorem Dec.lt {w : World} {b g : Nat} {t : TypeId} {x : Value} {s : DSt} (h : Dec w b g t x s) : b < w.heap.size := by
  obtain ⟨ad, cap, h1, _⟩ := h.blk
  exact (Array.getElem?_eq_some_iff.1 h1).1

theorem Dec.of_grown {w w' : World} {b g : Nat} {t : TypeId} {x : Value} {s : DSt} {row : Option Nat} (h : Dec w b g t x s) (hg : w.grownBy w' row) (h1 : some b ≠ row) (h2 : some g ≠ row) (h3 : some 0 ≠ row) : Dec w' b g t x s := by
  obtain ⟨ad, cap, hb, hc, hat⟩ := h.blk
  refine ⟨h.ne, h.ne0, hg.cell h.eof h3, ⟨ad, cap, ?_, hc, ?_⟩, h.len, Nat.lt_of_lt_of_le h.pay hg.size⟩
  · rw [hg.block b h.lt h1]; exact hb
  · rcases hat with e | ⟨o, rfl, hcell⟩
    · exact Or.inl e
    · exact Or.inr ⟨o, rfl, fun j hj => hg.cell (hcell j hj) h2⟩

/-- a new block's content for the Decoder -/
theorem Dec.put {w w' : World} {b g : Nat} {t : TypeId} {x : Value} {s s' : DSt} (h : Dec w b g t x s) {ad : Option Addr} {cap : Nat}
    (hb : w'.heap[b]? = some (.cells #[.slice ad s'.1.length cap, if s'.2 then .nilIface else .iface t x] 50 (0, 0))) (hk : ∀ k, k ≠ b → w'.heap[k]? = w.heap[k]?) (hsz : w'.heap.size = w.heap.size) (hcap : s'.1.length ≤ cap) (hat : At w g ad s'.1) (hl : s'.1.length ≤ s.1.length) : Dec w' b g t x s' :=
  ⟨h.ne, h.ne0, (World.cell?_of_block (w := w) (a := ⟨0, 0, none⟩) (hk 0 (fun e => h.ne0 e.symm))).trans h.eof, ⟨ad, cap, hb, hcap, hat.of_block (hk g (fun e => h.ne e.symm))⟩, Nat.le_trans hl h.len, by rw [hsz]; exact h.pay⟩

theorem grown_setCell (w : World) (b o : Nat) (u : Value) : w.grownBy (w.setCell ⟨b, o, none⟩ u) (some b) :=
  ⟨rfl, rfl, rfl, by simp [World.setCell], fun k hk hne => heap_setCell_other _ _ _ _ (by intro e; exact hne (by rw [e]))⟩

/-- the first cell of the Decoder stored -/
theorem Dec.store0 {w : World} {b g : Nat} {t : TypeId} {x : Value} {s : DSt} (h : Dec w b g t x s) {r : List UInt8} {ad : Option Addr} {cap n : Nat} (hn : n = r.length) (hcap : r.length ≤ cap) (hat : At w g ad r) (hl : r.length ≤ s.1.length) :
    Dec (w.setCell ⟨b, 0, none⟩ (.slice ad n cap)) b g t x (r, s.2) := by
  obtain ⟨ad0, cap0, hb, _, _⟩ := h.blk
  subst hn
  refine h.put (s' := (r, s.2)) ?_ (fun k hk => heap_setCell_other _ _ _ _ hk) (by simp [World.setCell]) hcap hat hl
  rw [heap_setCell_same _ _ _ _ _ _ hb]
  simp

/-- the second cell: a read has failed -/
theorem Dec.store1 {w : World} {b g : Nat} {t : TypeId} {x : Value} {s : DSt} (h : Dec w b g t x s) : Dec (w.setCell ⟨b, 1, none⟩ (.iface t x)) b g t x (s.1, false) := by
  obtain ⟨ad0, cap0, hb, hc, hat⟩ := h.blk
  refine h.put (s' := (s.1, false)) (ad := ad0) (cap := cap0) ?_ (fun k hk => heap_setCell_other _ _ _ _ hk) (by simp [World.setCell]) hc hat (Nat.le_refl _)
  rw [heap_setCell_same _ _ _ _ _ _ hb]
  simp

theorem Dec.cells {w : World} {b g : Nat} {t : TypeId} {x : Value} {s : DSt} (h : Dec w b g t x s) : ∃ ad cap, w.cell? ⟨b, 0, none⟩ = some (.slice ad s.1.length cap) ∧ w.cell? ⟨b, 1, none⟩ = some (if s.2 then .nilIface else .iface t x) ∧ w.frozen? ⟨b, 0, none⟩ = false ∧ w.frozen? ⟨b, 1, none⟩ = false ∧ s.1.length ≤ cap ∧ At w g ad s.1 := by
  obtain ⟨ad, cap, hb, hc, hat⟩ := h.blk
  exact ⟨ad, cap, by rw [cell_of_row _ _ _ _ _ _ hb]; rfl, by rw [cell_of_row _ _ _ _ _ _ hb]; rfl, frozen_of_row _ _ _ _ _ hb, frozen_of_row _ _ _ _ _ hb, hc, hat⟩

theorem uvarint_call (w : World) (g : Nat) (ad : Option Addr) (l : List UInt8) (c : Nat) (h : At w g ad l) :
    Calls Tryd.prog 33 #[.slice ad l.length c] w fun e w' => e = .returned (.tuple #[.int .u64 (Lib.uvarintDec l).1, .int .i64 (Lib.uvarintDec l).2]) ∧ w' = w := by
  rcases h with rfl | ⟨o, rfl, hc⟩
  · exact Tryd.binary_Uvarint_empty ad c w
  · exact Tryd.binary_Uvarint g o l.length c l w rfl hc

set_option maxHeartbeats 1000000 in
theorem duv_any (b g : Nat) (t : TypeId) (x : Value) (s : DSt) (w : World) (hD : Dec w b g t x s) :
    Calls Tryd.prog 30 #[.pointer (some ⟨b, 0, none⟩)] w fun e w' => e = .returned (.int .u64 ((duv s).1 : Int)) ∧ Dec w' b g t x (duv s).2 ∧ w.grownBy w' (some b) := by
  obtain ⟨r, ok⟩ := s
  obtain ⟨ad, cap, h0, h1, f0, f1, hcap, hat⟩ := hD.cells
  have hlen := hD.len
  have he := hD.eof
  have hk := uvDec_le r
  simp only at h0 h1 hcap hat hlen
  cases ok
  · simp only [Bool.false_eq_true, if_false] at h1
    go_enter Tryd.func30, Tryd.ntmps30
    go_wp2
    go_ret
    exact ⟨rfl, hD, World.grownBy.refl _ _⟩
  · simp only [if_true] at h1
    obtain ⟨v, hv⟩ : ∃ v, v = (Lib.uvarintDec r).1 := ⟨_, rfl⟩
    obtain ⟨n, hn⟩ : ∃ n, n = (Lib.uvarintDec r).2 := ⟨_, rfl⟩
    have hc33 := uvarint_call w g ad r cap hat
    rw [← hv, ← hn] at hc33
    rw [← hn] at hk
    have HC : Hid _ := hc33
    clear hc33
    by_cases hpos : n ≤ 0
    · have hduv : duv (r, true) = (0, (r, false)) := by unfold duv; rw [← hn]; simp [hpos]
      have HDV : Hid (duv (r, true) = (0, (r, false))) := hduv
      clear hduv hv hn
      go_enter Tryd.func30, Tryd.ntmps30
      go_wp2_with fail
      refine Calls.mono HC.out ?_
      rintro e w1 ⟨rfl, rfl⟩
      go_wp2
      go_ret
      rw [HDV.out]
      exact ⟨rfl, hD.store1, grown_setCell _ _ _ _⟩
    · obtain ⟨k, rfl⟩ : ∃ k : Nat, n = k := ⟨n.toNat, by omega⟩
      have hduv : duv (r, true) = (v, (r.drop k, true)) := by unfold duv; rw [← hn, ← hv]; simp; omega
      have HDV : Hid (duv (r, true) = (v, (r.drop k, true))) := hduv
      clear hduv hv hn
      go_enter Tryd.func30, Tryd.ntmps30
      go_wp2_with fail
      refine Calls.mono HC.out ?_
      rintro e w1 ⟨rfl, rfl⟩
      go_wp2
      · have hcapk : cap = k := by assumption
        go_ret
        rw [HDV.out]
        refine ⟨rfl, hD.store0 (r := r.drop k) (by simp) (by simp; omega) (Or.inl (List.drop_eq_nil_of_le (by omega))) (by simp), grown_setCell _ _ _ _⟩
      · go_ret
        rw [HDV.out]
        refine ⟨rfl, hD.store0 (r := r.drop k) (by simp) (by simp; omega) (hat.drop k) (by simp), grown_setCell _ _ _ _⟩

/-- what Bytes hands back: bytes of the payload, and what it leaves -/
def GotB (b g : Nat) (t : TypeId) (x : Value) (r : List UInt8 × DSt) (w : World) (e : Ending) (w' : World) : Prop :=
  ∃ ad cap, e = .returned (.slice ad r.1.length cap) ∧ At w' g ad r.1 ∧ Dec w' b g t x r.2 ∧ w.grownBy w' (some b)

set_option maxHeartbeats 1000000 in
theorem dby_any (b g n : Nat) (t : TypeId) (x : Value) (s : DSt) (w : World) (hD : Dec w b g t x s) (hn : n < 18446744073709551616) :
    Calls Tryd.prog 29 #[.pointer (some ⟨b, 0, none⟩), .int .u64 (n : Int)] w (GotB b g t x (dby n s) w) := by
  obtain ⟨r, ok⟩ := s
  obtain ⟨ad, cap, h0, h1, f0, f1, hcap, hat⟩ := hD.cells
  have hlen := hD.len
  have he := hD.eof
  simp only at h0 h1 hcap hat hlen
  cases ok
  · simp only [Bool.false_eq_true, if_false] at h1
    have hd : dby n (r, false) = ([], (r, false)) := by unfold dby; simp
    have HDV : Hid (dby n (r, false) = ([], (r, false))) := hd
    clear hd
    go_enter Tryd.func29, Tryd.ntmps29
    go_wp2
    go_ret
    rw [HDV.out]
    exact ⟨none, 0, rfl, Or.inl rfl, hD.store1, grown_setCell _ _ _ _⟩
  · simp only [if_true] at h1
    by_cases hle : n ≤ r.length
    · have hd : dby n (r, true) = (r.take n, (r.drop n, true)) := by unfold dby; simp [hle]
      have HDV : Hid (dby n (r, true) = (r.take n, (r.drop n, true))) := hd
      clear hd
      have hlt : (r.take n).length = n := by simp [hle]
      have HT : Hid ((r.take n).length = n) := hlt
      clear hlt
      go_enter Tryd.func29, Tryd.ntmps29
      go_wp2
      · have hcapk : cap = n := by assumption
        go_ret
        rw [HDV.out]
        have hg := grown_setCell w b 0 (.slice ad (r.length - n) 0)
        have hat1 : At (w.setCell ⟨b, 0, none⟩ (.slice ad (r.length - n) 0)) g ad (r.take n) := (hat.take n).of_block (heap_setCell_other _ _ _ _ (fun e => hD.ne e.symm))
        refine ⟨ad, n, ?_, hat1, hD.store0 (r := r.drop n) (by simp) (by simp; omega) (Or.inl (List.drop_eq_nil_of_le (by omega))) (by simp), hg⟩
        show _ = Ending.returned (.slice ad (r.take n).length n)
        rw [HT.out]
        simp
      · go_ret
        rw [HDV.out]
        have hg := grown_setCell w b 0 (.slice (ad.map fun x => x.add n) (r.length - n) (cap - n))
        have hat1 : At (w.setCell ⟨b, 0, none⟩ (.slice (ad.map fun x => x.add n) (r.length - n) (cap - n))) g ad (r.take n) := (hat.take n).of_block (heap_setCell_other _ _ _ _ (fun e => hD.ne e.symm))
        refine ⟨ad, cap, ?_, hat1, hD.store0 (r := r.drop n) (by simp) (by simp; omega) (hat.drop n) (by simp), hg⟩
        show _ = Ending.returned (.slice ad (r.take n).length cap)
        rw [HT.out]
        simp
    · have hd : dby n (r, true) = ([], (r, false)) := by unfold dby; simp [hle]
      have HDV : Hid (dby n (r, true) = ([], (r, false))) := hd
      clear hd
      go_enter Tryd.func29, Tryd.ntmps29
      go_wp2
      go_ret
      rw [HDV.out]
      exact ⟨none, 0, rfl, Or.inl rfl, hD.store1, grown_setCell _ _ _ _⟩

set_option maxHeartbeats 1000000 in
theorem dct_any (b g : Nat) (t : TypeId) (x : Value) (s : DSt) (w : World) (hD : Dec w b g t x s) :
    Calls Tryd.prog 27 #[.pointer (some ⟨b, 0, none⟩), .int .i64 3] w fun e w' => e = .returned (.int .i64 ((dct s).1 : Int)) ∧ Dec w' b g t x (dct s).2 ∧ w.grownBy w' (some b) := by
  have hlt := duv_lt s
  go_enter Tryd.func27, Tryd.ntmps27
  go_wp2_with fail
  refine (duv_any b g t x s _ hD).mono ?_
  rintro e w1 ⟨rfl, hD1, hg1⟩
  clear hD
  obtain ⟨⟨n, r, ok⟩, hs⟩ : ∃ p, p = duv s := ⟨_, rfl⟩
  have hdct : dct s = if ok = true ∧ n ≤ r.length / 3 then (n, (r, ok)) else (0, (r, false)) := by unfold dct; rw [← hs]
  rw [← hs] at hD1 hlt ⊢
  have HDC : Hid (dct s = if ok = true ∧ n ≤ r.length / 3 then (n, (r, ok)) else (0, (r, false))) := hdct
  clear hdct hs
  obtain ⟨ad, cap, h0, h1, f0, f1, hcap, hat⟩ := hD1.cells
  have hlen := hD1.len
  have he := hD1.eof
  simp only at h0 h1 hcap hat hlen hlt ⊢
  cases ok
  · simp only [Bool.false_eq_true, if_false] at h1
    go_wp2
    go_ret
    rw [HDC.out, if_neg (by simp)]
    exact ⟨rfl, hD1.store1, World.grownBy.trans' hg1 (grown_setCell _ _ _ _)⟩
  · simp only [if_true] at h1
    obtain ⟨q, hq⟩ : ∃ q, q = r.length / 3 := ⟨_, rfl⟩
    have eq : (r.length : Int) / 3 = (q : Int) := by omega
    have lq : q ≤ r.length := by omega
    have HQ : Hid (q = r.length / 3) := hq
    clear hq
    by_cases hle : n ≤ q
    · go_wp2
      go_ret
      rw [HDC.out, if_pos ⟨by first | rfl | trivial, by rw [← HQ.out]; exact hle⟩]
      exact ⟨by first | rfl | trivial, hD1, hg1⟩
    · go_wp2
      go_ret
      rw [HDC.out, if_neg (by rw [← HQ.out]; omega)]
      exact ⟨rfl, hD1.store1, World.grownBy.trans' hg1 (grown_setCell _ _ _ _)⟩
end Go.Proofs.Qxb6613060aDoor
