/-
  SEAT b6613060aD: the walk of FnReadMembersRoundTrip.
-/
import Derived.Test.Qxb6613060aDoorLaw
namespace Go.Proofs.Qxb6613060aDoor
open Go.ChangeShapes Go.WideShapes Go.ChangeAt Go.RowKit
set_option linter.unusedVariables false

/-- the Decoder just made over a payload -/
theorem dec_new {w : World} {g cap : Nat} {l : List UInt8} {t : TypeId} {x : Value} (hp : Pay w g l) (hcap : l.length ≤ cap) (hl : l.length ≤ 140737488355328) (heof : w.cell? ⟨0, 0, none⟩ = some (.iface t x)) (h0 : 0 < w.heap.size) :
    Dec (w.alloc (.cells #[.slice (some ⟨g, 0, none⟩) l.length cap, .nilIface] 50)) w.heap.size g t x (l, true) := by
  have hg := hp.lt
  refine ⟨by omega, by omega, ?_, ⟨_, cap, heap_alloc_new _ _, hcap, Or.inr ⟨0, rfl, fun j hj => ?_⟩⟩, hl, by simp; omega⟩
  · exact (World.cell?_of_block (w := w) (a := ⟨0, 0, none⟩) (Below.heap_alloc w _ 0 h0)).trans heof
  · rw [Nat.zero_add]
    exact (World.cell?_of_block (w := w) (a := ⟨g, j, none⟩) (Below.heap_alloc w _ g hg)).trans (hp.cell hj)

theorem MemS.below {B B' : Nat} {w w' : World} {a : Option Addr} {n : Nat} {f : Nat → Srv} (h : MemS B w a n f) (hb : Below B' w w') (hB : w.heap.size ≤ B') : MemS B w' a n f := by
  rcases h with h | ⟨g, h1, h2, h3⟩
  · exact Or.inl h
  · exact Or.inr ⟨g, h1, h2, h3.below hb (Nat.lt_of_lt_of_le h3.lt hB)⟩

theorem SrvS.below {B' : Nat} {w w' : World} {a : Option Addr} {n : Nat} {f : Nat → Srv} (h : SrvS w a n f) (hb : Below B' w w') (hB : w.heap.size ≤ B') : SrvS w' a n f := by
  rcases h with h | ⟨g, h1, h3⟩
  · exact Or.inl h
  · exact Or.inr ⟨g, h1, h3.below hb (Nat.lt_of_lt_of_le h3.lt hB)⟩

theorem GotV.srv {n : Nat} {f : Nat → Srv} {B : Nat} {w' : World} {a : Option Addr} (h : (a = none ∧ n = 0) ∨ ∃ g, a = some ⟨g, 0, none⟩ ∧ B ≤ g ∧ Own 39 w' g n f) : SrvS w' a n f := by
  rcases h with h | ⟨g, h1, _, h2⟩
  · exact Or.inl h
  · exact Or.inr ⟨g, h1, h2⟩

theorem eof_below {B : Nat} {w w' : World} {t : TypeId} {x : Value} (heof : w.cell? ⟨0, 0, none⟩ = some (.iface t x)) (hb : Below B w w') (hB : 0 < B) : w'.cell? ⟨0, 0, none⟩ = some (.iface t x) :=
  (World.cell?_of_block (w := w) (a := ⟨0, 0, none⟩) (hb.block 0 hB)).trans heof

set_option maxHeartbeats 2000000 in
set_option maxRecDepth 100000 in
theorem round_any (a : Option Addr) (n c : Nat) (f : Nat → Srv) (w : World) (t : TypeId) (x : Value) (hn : n ≤ 9223372036854775807) (hf : Fits f n) (hc : CameS w a n c f) (h0 : 0 < w.heap.size) (heof : w.cell? ⟨0, 0, none⟩ = some (.iface t x)) :
    Calls Tryd.prog 3 #[.slice a n c] w (SaysTrue w) := by
  go_enter Tryd.func3, Tryd.ntmps3
  go_wp2_with fail
  refine (bytes5 a n c f _ hn hf hc).mono ?_
  rintro e w' ⟨⟨b, rfl⟩, rfl⟩
  cases b
  · go_wp2
    go_ret
    exact ⟨rfl, Below.refl _ _⟩
  by_cases h1 : 4096 < n
  · go_wp2
    go_ret
    exact ⟨rfl, Below.refl _ _⟩
  go_wp2_with fail
  refine (sizes_any a n c f _ hn hf hc).mono ?_
  rintro e w' ⟨⟨z, rfl, hz, hz2⟩, rfl⟩
  by_cases h2 : 1048576 < z
  · clear hz2
    go_wp2
    go_ret
    exact ⟨rfl, Below.refl _ _⟩
  have htot := hz2 (by omega)
  have hlen : (encMembers (seg f 0 n)).length ≤ 1048600 := by
    have := encMembers_le hf (by omega)
    omega
  have HL : Hid ((encMembers (seg f 0 n)).length ≤ 1048600) := hlen
  have hpos := encMembers_pos (seg f 0 n)
  clear hz2 htot hlen
  go_wp2_with fail
  refine (clone_any a n c f _ (by omega) hc).mono ?_
  rintro e w1 ⟨a1, rfl, hm1, hb1⟩
  have s1 := hb1.size
  go_wp2_with fail
  refine (servs_any _ a1 n n f _ (by omega) hm1).mono ?_
  rintro e w2 ⟨a2, rfl, hv2, hb2⟩
  have s2 := hb2.size
  have hm2 := hm1.below hb2 (Nat.le_refl _)
  have hb12 := hb1.trans (hb2.mono s1)
  go_wp2_with fail
  refine (members_any n n a2 f _ (by omega) (GotV.srv hv2) (by have := HL.out; omega)).mono ?_
  rintro e w3 ⟨v3, rfl, ho3, hb3⟩
  have s3 := hb3.size
  have hm3 := hm2.below hb3 (Nat.le_refl _)
  have hb13 := hb12.trans (hb3.mono (by omega))
  obtain ⟨g, cap, hv3, hg, hcap, hpay⟩ := ho3.pay hpos
  subst hv3
  clear hm1 hm2 hv2 hb1 hb2 hb3 hb12
  generalize hE : encMembers (seg f 0 n) = E at hpay hcap hpos ho3
  have HE : Hid (encMembers (seg f 0 n) = E) := hE
  have hE2 : E.length ≤ 1048600 := by have := HL.out; rw [hE] at this; exact this
  clear hE
  go_wp2_with fail
  refine (newDecoder_any _ E.length cap _).mono ?_
  rintro e w4 ⟨rfl, hw4⟩
  have hD := dec_new hpay hcap (by omega) (eof_below heof hb13 h0) (by omega)
  rw [← hw4] at hD
  have hb4 : Below w3.heap.size w3 w4 := by rw [hw4]; exact (Below.refl _ _).alloc (Nat.le_refl _) _
  clear hw4 ho3
  have s4 := hb4.size
  have hm4 := hm3.below hb4 (Nat.le_refl _)
  have hb14 := hb13.trans (hb4.mono (by omega))
  clear hb13
  go_wp2_with fail
  refine (read_members _ g t x (E, true) _ hD).mono ?_
  rintro e w5 ⟨a5, m, c5, ok, r, rfl, hs5, hRM, hm5, hg5⟩
  have hbb5 : Below w3.heap.size w4 w5 := grownBy_below hg5 (by omega) (Nat.le_refl _)
  have s5 := hbb5.size
  have hm6 := hm3.below (hb4.trans hbb5) (Nat.le_refl _)
  have hb15 := hb14.trans (hbb5.mono (by omega))
  have hRM' : RM (encMembers (seg f 0 n), true) ok m r := by rw [HE.out]; exact hRM
  have hok := got_ok hf (by omega) hRM'
  subst hok
  have HR : Hid (RM (encMembers (seg f 0 n), true) true m r) := hRM'
  clear hRM hRM' hm3 hm4 hD hg5 hpay hb4 hbb5 hb14 hc heof
  go_wp2_with fail
  refine (expect_any _ a1 n n f _ (by omega) hm6).mono ?_
  rintro e w6 ⟨a6, u, rfl, hs6, hx, hb6⟩
  have s6 := hb6.size
  obtain ⟨_, hmn, heq⟩ := back hf (by omega) HR.out hx
  subst hmn
  have hs5' := hs5.below hb6 (Nat.le_refl _)
  have hb16 := hb15.trans (hb6.mono (by omega))
  clear hm6 hb15 hs5 HR hx
  go_wp2_with fail
  refine (same_any a5 a6 m c5 m r u _ (by omega) hs5' hs6 heq).mono ?_
  rintro e w7 ⟨rfl, hb7⟩
  have hb17 := hb16.trans (hb7.mono (by omega))
  clear heq hs5' hs6
  go_wp2
  go_ret
  exact ⟨rfl, hb17⟩
end Go.Proofs.Qxb6613060aDoor
