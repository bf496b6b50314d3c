/-
  SEAT b6613060aD: the walk of FnReadMembersPrefixes.
-/
import Derived.Test.Qxb6613060aDoorRound
import Derived.Deep.RegionHeld3
import Derived.Deep.AppendLies
import Derived.BigQuiet
namespace Go.Proofs.Qxb6613060aDoor
open Go.ChangeShapes Go.WideShapes Go.ChangeAt Go.RowKit
set_option linter.unusedVariables false

theorem MemS.pos {B : Nat} {w : World} {a : Option Addr} {n : Nat} {f : Nat → Srv} (h : MemS B w a n f) (hn : 0 < n) : ∃ g, a = some ⟨g, 0, none⟩ ∧ Own 38 w g n f := by
  rcases h with ⟨_, h⟩ | ⟨g, h1, _, h2⟩
  · omega
  · exact ⟨g, h1, h2⟩

/-- whether a non-voter is among them -/
def HasN (l : List Srv) (v : Value) : Prop := ∃ b : Bool, v = .bool b ∧ (b = true ↔ (nonsOf l).length ≠ 0)

theorem HasN.yes {f : Nat → Srv} {k : Nat} (h : (f k).non = true) : HasN (seg f 0 (k + 1)) (.bool true) :=
  ⟨true, rfl, by rw [(voters_no f k h).2]; simp⟩
theorem HasN.same {f : Nat → Srv} {k : Nat} {v : Value} (h : (f k).non = false) (hv : HasN (seg f 0 k) v) : HasN (seg f 0 (k + 1)) v := by
  obtain ⟨b, h1, h2⟩ := hv
  exact ⟨b, h1, by rw [(voters_yes f k h).2]; exact h2⟩

set_option maxHeartbeats 4000000 in
set_option maxRecDepth 100000 in
theorem prefixes_any (a : Option Addr) (n c : Nat) (k : Int) (f : Nat → Srv) (w : World) (t : TypeId) (x : Value) (hn : n ≤ 9223372036854775807) (hf : Fits f n) (hc : CameS w a n c f) (h0 : 0 < w.heap.size) (heof : w.cell? ⟨0, 0, none⟩ = some (.iface t x)) :
    Calls Tryd.prog 4 #[.slice a n c, .int .i64 k] w (SaysTrue w) := by
  obtain ⟨i0, hi, hz0, hz1, hz2⟩ := info_parts Tryd.info39
  go_enter Tryd.func4, Tryd.ntmps4
  go_wp2_with fail
  refine (bytes14 a n c k f _ hn hf hc).mono ?_
  rintro e w' ⟨⟨b, rfl⟩, rfl⟩
  cases b
  · go_wp2
    go_ret
    exact ⟨rfl, Below.refl _ _⟩
  by_cases h1 : 4096 < n
  · go_wp2
    go_ret
    exact ⟨rfl, Below.refl _ _⟩
  go_wp2_with fail
  refine (sizes_any a n c f _ hn hf hc).mono ?_
  rintro e w' ⟨⟨z, rfl, hz, hz2'⟩, rfl⟩
  by_cases h2 : 1048576 < z
  · clear hz2'
    go_wp2
    go_ret
    exact ⟨rfl, Below.refl _ _⟩
  have htot := hz2' (by omega)
  have hlen : (encMembers (seg f 0 n)).length ≤ 1048600 := by
    have := encMembers_le hf (by omega)
    omega
  have HL : Hid ((encMembers (seg f 0 n)).length ≤ 1048600) := hlen
  have hpos := encMembers_pos (seg f 0 n)
  clear hz2' htot hlen
  go_wp2_with fail
  refine (clone_any a n c f _ (by omega) hc).mono ?_
  rintro e w1 ⟨a1, rfl, hm1, hb1⟩
  have s1 := hb1.size
  go_wp2_with fail
  refine (servs_any _ a1 n n f _ (by omega) hm1).mono ?_
  rintro e w2 ⟨a2, rfl, hv2, hb2⟩
  have s2 := hb2.size
  have hm2 := hm1.below hb2 (Nat.le_refl _)
  have hb12 := hb1.trans (hb2.mono s1)
  go_wp2_with fail
  refine (members_any n n a2 f _ (by omega) (GotV.srv hv2) (by have := HL.out; omega)).mono ?_
  rintro e w3 ⟨v3, rfl, ho3, hb3⟩
  have s3 := hb3.size
  have hm3 := hm2.below hb3 (Nat.le_refl _)
  have hb13 := hb12.trans (hb3.mono (by omega))
  obtain ⟨g, cap, hv3, hg, hcap, hpay⟩ := ho3.pay hpos
  subst hv3
  clear hm1 hm2 hv2 hb1 hb2 hb3 hb12 ho3 hc
  generalize hE : encMembers (seg f 0 n) = E at hpay hcap hpos
  have HE : Hid (encMembers (seg f 0 n) = E) := hE
  have hE2 : E.length ≤ 1048600 := by have := HL.out; rw [hE] at this; exact this
  clear hE HL
  have hgw := hpay.lt
  go_wp2_with fail
  refine (cloneBytes_any g cap E _ (by omega) hpay).mono ?_
  rintro e w4 ⟨g4, rfl, hg4, hp4, hb4⟩
  have s4 := hb4.size
  go_wp2_with fail
  refine (newDecoder_any _ E.length E.length _).mono ?_
  rintro e w5 ⟨rfl, hw5⟩
  have hD := dec_new hp4 (Nat.le_refl _) (by omega) (eof_below (eof_below heof hb13 h0) hb4 (by omega)) (by omega)
  rw [← hw5] at hD
  have hb5 : Below w4.heap.size w4 w5 := by rw [hw5]; exact (Below.refl _ _).alloc (Nat.le_refl _) _
  clear hw5 hp4
  have s5 := hb5.size
  go_wp2_with fail
  refine (read_members _ g4 t x (E, true) _ hD).mono ?_
  rintro e w6 ⟨a6, m6, c6, ok6, r6, rfl, _, hRM, _, hg6⟩
  have hb6 : Below w4.heap.size w5 w6 := grownBy_below hg6 (by omega) (Nat.le_refl _)
  have s6 := hb6.size
  have hok : ok6 = true := got_ok hf (by omega) (by rw [HE.out]; exact hRM)
  subst hok
  have hb36 : Below w3.heap.size w3 w6 := hb4.trans ((hb5.trans hb6).mono s4)
  have hm6 := hm3.below hb36 (Nat.le_refl _)
  have hp6 : Pay w6 g E := hpay.of_block (hb36.block g hgw)
  have hb16 := hb13.trans (hb36.mono (by omega))
  have hg6' : g < w6.heap.size := by omega
  clear hm3 hD hg6 hpay hb4 hb5 hb6 hb36 hRM hb13
  go_wp2
  go_loopw [8, 9, 10, 40] (fun vv vh _ vi wr => ∃ j : Nat, j ≤ n ∧ vi = .int .i64 j ∧ OwnL w6.heap.size wr vv (votersOf (seg f 0 j)) ∧ HasN (seg f 0 j) vh ∧ Below w6.heap.size w6 wr) (fun _ _ _ vi _ => n - (intOf vi).toNat)
  case atStart => exact ⟨0, Nat.zero_le _, rfl, OwnL.nil _ _, ⟨false, rfl, by rw [seg_nil f (Nat.le_refl 0)]; simp [nonsOf]⟩, Below.refl _ _⟩
  case round =>
    obtain ⟨j, hj, rfl, hown, hhas, hbel⟩ := hrel
    have hszr := hbel.size
    by_cases hlt : j < n
    · obtain ⟨g1, ha1, ho1⟩ := hm6.pos (by omega)
      subst ha1
      have hg1 := ho1.lt
      obtain ⟨p0, p1, p2, p3⟩ := (ho1.below hbel hg1).cells (i := j) hlt
      generalize hy : f j = y at p0 p1 p2 p3
      have HY : Hid (f j = y) := hy
      clear hy
      have lv := lv_le f j
      have ij0 : (0 : Int) ≤ (j : Int) := by omega
      have ij1 : (j : Int) < (n : Int) := by omega
      obtain ⟨yi, ya, yp, yn⟩ := y
      simp only at p0 p1 p2 p3
      cases yn
      · have hrow : some g1 ≠ u8.ownBlock := fun e => by have := (hown.lt g1 e.symm).1; omega
        go_wp2
        go_region_held3 (fun W => W.cell? ⟨g1, j * 4, none⟩ = some (.string yi) ∧ W.cell? ⟨g1, j * 4 + 1, none⟩ = some (.string ya) ∧ W.cell? ⟨g1, j * 4 + 2, none⟩ = some (.string yp)) (go_keep)
          ((refine step_append_lies _ (by rfl) _ _ _ (by rfl) w6.heap.size 39 i0 _ 4 56 Tryd.underlying28 hi hz0 hz1 hz2 rfl (by decide) _ _ _ (by rfl) (World.ownsRow.alloc (by exact hown) _) ⟨wr.heap.size, 0, none⟩ 1 1 (cells4 ⟨yi, ya, yp, false⟩) (by rfl) (by rfl) (by exact cells_four_new _ ⟨yi, ya, yp, false⟩ 39) (cells4_one _) (by omega) (by unfold maxLen; omega) (by omega) (by simp; omega) (wr.heap.size + 1) (by simp) ?_; intro gg capg w8 hown8 hgrow8 hat8 hlt8; have hc8 : ∀ o, w8.cell? ⟨g1, o, none⟩ = wr.cell? ⟨g1, o, none⟩ := fun o => World.cell?_of_block (w := wr) (a := ⟨g1, o, none⟩) ((hgrow8.block g1 (by simp; omega) hrow).trans (Below.heap_alloc _ _ _ (Nat.lt_of_lt_of_le hg1 hszr)))))
        have hb8 : Below w6.heap.size w6 w8 := (hbel.drew.alloc (by simp; omega) _).grown hgrow8 (by simp; omega) (fun k hk => (hown.lt k hk).1)
        clear hgrow8 hc8 p0 p1 p2 p3 hat8
        go_wp2
        go_roundw
        case rel =>
          have hv := voters_yes f j (by rw [HY.out])
          refine ⟨j + 1, by omega, by go_num, ?_, HasN.same (by rw [HY.out]) hhas, hb8⟩
          rw [hv.1, HY.out]
          unfold OwnL
          rw [flat4_snoc, List.length_append, List.length_singleton]
          exact hown8
        case measure => simp [intOf]; omega
      · go_wp2
        go_roundw
        case rel =>
          have hv := voters_no f j (by rw [HY.out])
          exact ⟨j + 1, by omega, by go_num, by rw [hv.1]; exact hown, HasN.yes (by rw [HY.out]), hbel⟩
        case measure => simp [intOf]; omega
    · have e1 : j = n := by omega
      subst e1
      have hb1r := hb16.trans (hbel.mono (by omega))
      have hpr : Pay wr g E := hp6.of_block (hbel.block g hg6')
      have heofr := eof_below heof hb1r h0
      obtain ⟨hb, rfl, hhb⟩ := hhas
      have HB : Hid (hb = true ↔ (nonsOf (seg f 0 j)).length ≠ 0) := hhb
      obtain ⟨av, cv, hvv, hsv⟩ := hown.slice
      have lv := lv_le f j
      generalize hV : votersOf (seg f 0 j) = V at hvv hsv lv
      have HV : Hid (votersOf (seg f 0 j) = V) := hV
      subst hvv
      have hgr : g < wr.heap.size := by omega
      clear hV hhb hown hm6 hp6 hb16 heof hbel
      by_cases k0 : k < 0
      · go_wp2
        go_ret
        exact ⟨rfl, hb1r⟩
      obtain ⟨K, rfl⟩ : ∃ K : Nat, k = (K : Int) := ⟨k.toNat, by omega⟩
      clear k0
      by_cases k1 : E.length ≤ K
      · go_wp2
        go_ret
        exact ⟨rfl, hb1r⟩
      have k2 : K < E.length := by omega
      have hVE : (encList V).length ≤ E.length := by
        rw [← HE.out, ← HV.out]; unfold encMembers; rw [List.length_append]; omega
      have hVp := encList_pos V
      go_wp2_with fail
      refine (servers_any wr.heap.size _ cv av (nth V) (.slice none 0 0) [] _ (OwnB.nil _ _) (Nat.le_refl _) (by omega) hsv (by rw [seg_nth, List.nil_append]; omega)).mono ?_
      rintro e w8 ⟨v8, rfl, ho8, hfr8⟩
      rw [seg_nth, List.nil_append] at ho8
      obtain ⟨g8, cap8, hv8, _, _, _⟩ := ho8.pay hVp
      subst hv8
      have hb8 := hfr8.bel
      have s8 := hb8.size
      have hsv8 := hsv.below hb8 (Nat.le_refl _)
      have hp8 : Pay w8 g E := hpr.of_block (hb8.block g hgr)
      have hb18 := hb1r.trans (hb8.mono (by have := hb1r.size; omega))
      have heof8 := eof_below heofr hb8 (by omega)
      clear ho8 hfr8 hb8 hsv hpr hb1r heofr
      have hlK : (E.take K).length = K := by rw [List.length_take]; omega
      have iK0 : (0 : Int) ≤ (K : Int) := by omega
      have iK1 : (K : Int) ≤ (cap : Int) := by omega
      go_wp2_with fail
      have hcb := cloneBytes_any g cap (E.take K) w8 (by omega) (hp8.take K)
      rw [hlK] at hcb
      refine hcb.mono ?_
      clear hcb
      rintro e w9 ⟨g9, he9, hg9, hp9, hb9⟩
      rw [hlK] at he9
      subst he9
      have s9 := hb9.size
      have hsv9 := hsv8.below hb9 (Nat.le_refl _)
      have hb19 := hb18.trans (hb9.mono (by have := hb18.size; omega))
      have heof9 := eof_below heof8 hb9 (by omega)
      clear hsv8 hp8 hb18 heof8 hb9
      go_wp2_with fail
      refine (newDecoder_any _ K K _).mono ?_
      rintro e w10 ⟨rfl, hw10⟩
      have hD := dec_new (cap := K) hp9 (by omega) (by omega) heof9 (by omega)
      rw [hlK, ← hw10] at hD
      have hb10 : Below w9.heap.size w9 w10 := by rw [hw10]; exact (Below.refl _ _).alloc (Nat.le_refl _) _
      have s10 := hb10.size
      clear hw10 hp9 heof9
      go_wp2_with fail
      refine (read_members _ g9 t x (E.take K, true) _ hD).mono ?_
      rintro e w11 ⟨a11, m11, c11, ok11, r11, rfl, hs11, hRM, hm11, hg11⟩
      have hb11 : Below w9.heap.size w10 w11 := grownBy_below hg11 (by omega) (Nat.le_refl _)
      have hsv11 := hsv9.below (hb10.trans hb11) (Nat.le_refl _)
      have hb111 := hb19.trans ((hb10.trans hb11).mono (by have := hb19.size; omega))
      have hS := small_seg hf
      have hl : (seg f 0 j).length ≤ 5461 := by rw [seg_length]; omega
      have hpx := rm_prefix hS hl (k := K) (by rw [HE.out]; exact k2) (by rw [HE.out]; exact hRM)
      rw [HV.out] at hpx
      have HP : Hid ((ok11 = true ↔ (nonsOf (seg f 0 j)).length ≠ 0 ∧ K = (encList V).length) ∧ (ok11 = true → seg r11 0 m11 = V)) := hpx
      clear hpx hRM hg11 hb10 hb11 hsv9 hb19 hD hS hl
      cases hb
      · have hok : ok11 = false := by
          cases ok11 with
          | false => rfl
          | true =>
            have := HB.out.2 (HP.out.1.1 rfl).1
            cases this
        subst hok
        clear hs11 hsv11
        go_wp2
        go_ret
        exact ⟨rfl, hb111⟩
      · by_cases hcut : K = (encList V).length
        · have hok : ok11 = true := HP.out.1.2 ⟨HB.out.1 rfl, hcut⟩
          subst hok
          have hseg := HP.out.2 rfl
          have hm : m11 = V.length := by
            have := congrArg List.length hseg
            rw [seg_length] at this
            omega
          have heq : ∀ i, i < V.length → r11 i = nth V i := by
            intro i hi'
            rw [← hseg, nth_seg r11 m11 i (by omega)]
          have hcut' : ((K : Int) == ((encList V).length : Int)) = true := by rw [hcut]; simp
          have HC : Hid (K = (encList V).length) := hcut
          clear hseg hcut
          subst hm
          have HQ : Hid (∀ i, i < V.length → r11 i = nth V i) := heq
          clear heq
          go_wp2_with fail
          refine (same_any a11 av V.length c11 cv r11 (nth V) _ (by omega) hs11 hsv11 HQ.out).mono ?_
          rintro e w12 ⟨rfl, hb12⟩
          have hb112 := hb111.trans (hb12.mono (by have := hb111.size; omega))
          clear hs11 hsv11
          go_wp2
          go_ret
          exact ⟨rfl, hb112⟩
        · have hok : ok11 = false := by
            cases ok11 with
            | false => rfl
            | true => exact absurd (HP.out.1.1 rfl).2 hcut
          subst hok
          have hcut' : ((K : Int) == ((encList V).length : Int)) = false := beq_eq_false_iff_ne.2 (by omega)
          have HC : Hid (K ≠ (encList V).length) := hcut
          clear hcut hs11 hsv11
          go_wp2
          go_ret
          exact ⟨rfl, hb111⟩
end Go.Proofs.Qxb6613060aDoor
