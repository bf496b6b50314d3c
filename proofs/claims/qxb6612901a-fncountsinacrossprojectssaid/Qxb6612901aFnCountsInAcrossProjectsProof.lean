/- The proof of 'Rows.FnCountsInAcrossProjectsSaid'. -/
import Derived.Test.Qxb6612901aFrame
namespace Go.Proofs.Qxb6612901a.fnCountsInAcrossProjects
open Go.ChangeShapes Go.WideShapes Go.ChangeAt Go.RowKit
open Go.ChangeMaps (open_string shut_string)
set_option linter.unusedVariables false

/-- what the calls behind one another read: the box of a, the box of aa, the facts' status -/
structure Five (w wc : World) (bf ba : Nat) (s : ByteArray) (x : Asg) : Prop where
  bx : Box wc w.heap.size x
  aa : Box wc ba x
  fs : wc.cell? ⟨bf, 0, none⟩ = some (.string s)
  bw : Below w.heap.size w wc
  z0 : w.heap.size < wc.heap.size
  zf : bf < wc.heap.size
  za : ba < wc.heap.size

theorem Five.step {w wc wc' : World} {bf ba : Nat} {s : ByteArray} {x : Asg} (h : Five w wc bf ba s x) (hb : Below wc.heap.size wc wc') : Five w wc' bf ba s x :=
  ⟨h.bx.below hb h.z0, h.aa.below hb h.za, (hb.cell (p := ⟨bf, 0, none⟩) h.zf).trans h.fs, h.bw.trans (hb.mono (Nat.le_of_lt h.z0)), Nat.lt_of_lt_of_le h.z0 hb.size, Nat.lt_of_lt_of_le h.zf hb.size, Nat.lt_of_lt_of_le h.za hb.size⟩

set_option maxHeartbeats 2000000 in
theorem walk (s : ByteArray) (a : Option Addr) (n c : Nat) (f : Nat → Asg) (x : Asg) (q : Int) (w : World) (hs : s.size ≤ 9223372036854775807) (hn : n ≤ 9223372036854775807) (hc : Came w a n c f) :
    Calls Try.prog 5 #[.string s, .slice a n c, .agg #[.int .i64 x.r, .bool x.adm, .int .i64 x.p], .int .i64 q] w fun e w' => e = .returned (.bool true) ∧ Below w.heap.size w w' := by
  go_enter Try.func5, Try.ntmps5
  go_wp2_with fail
  refine (bytes13 s a n c x q _ hs hn).mono ?_
  rintro e w1 ⟨b, rfl, hb, hbel1⟩
  have hz1 : w.heap.size < w1.heap.size := by have := hbel1.size; simp at this; omega
  have hbx1 : Box w1 w.heap.size x := (Box.made w x 24).below hbel1 (by simp)
  have hbw1 : Below w.heap.size w w1 := ((Below.refl _ _).alloc (Nat.le_refl _) _).trans (hbel1.mono (by simp))
  clear hbel1
  cases b
  · go_wp2
    go_ret
    exact ⟨rfl, hbw1⟩
  rcases Nat.lt_or_ge 524288 s.size with h1 | h1
  · clear hbx1
    go_wp2
    go_ret
    exact ⟨rfl, hbw1⟩
  rcases Nat.lt_or_ge 16384 n with h2 | h2
  · clear hbx1
    go_wp2
    go_ret
    exact ⟨rfl, hbw1⟩
  clear hb
  go_wp2_with fail
  refine (held_any a n c f _ (by omega) (hc.alloc hbw1)).mono ?_
  rintro e w2 ⟨a', rfl, hO2, hbel2⟩
  have hz2 : w.heap.size < w2.heap.size := by have := hbel2.size; omega
  have hbx2 := hbx1.below hbel2 hz1
  have hbw2 := hbw1.trans (hbel2.mono (Nat.le_of_lt hz1))
  clear hbel2 hbx1 hbw1 hc hO2 hz1
  go_wp2_with fail
  refine (facts_any s a' n n _).mono ?_
  rintro e w3 ⟨rfl, rfl⟩
  have hb3 : Below w2.heap.size w2 (w2.alloc (.cells #[.string s, .slice a' n n] 38)) := (Below.refl _ _).alloc (Nat.le_refl _) _
  have hbx3 := hbx2.below hb3 hz2
  have hbw3 := hbw2.trans (hb3.mono (Nat.le_of_lt hz2))
  have hf3 := (facts_cells w2 (.string s) (.slice a' n n)).1
  have hz3 : w2.heap.size < (w2.alloc (.cells #[.string s, .slice a' n n] 38)).heap.size := by simp
  clear hb3 hbx2 hbw2
  revert hbx3 hbw3 hf3 hz3
  generalize (w2.alloc (.cells #[.string s, .slice a' n n] 38)) = w3
  intro hbx3 hbw3 hf3 hz3
  obtain ⟨q0, q1, q2⟩ := hbx3
  go_wp2_with fail
  refine (one_any x _).mono ?_
  rintro e w4 ⟨rfl, hb4⟩
  have hbx4 : Box w4 w.heap.size x := Box.below ⟨q0, q1, q2⟩ hb4 (by omega)
  have hf4 := (hb4.cell (p := ⟨w2.heap.size, 0, none⟩) hz3).trans hf3
  have hbw4 := hbw3.trans (hb4.mono (by omega))
  have hz4 : w2.heap.size < w4.heap.size := Nat.lt_of_lt_of_le hz3 hb4.size
  clear q0 q1 q2 hbw3 hf3 hb4 hz3
  go_wp2_with fail
  have hb5 : Below w4.heap.size w4 (w4.alloc (.cells #[.int .i64 x.r, .bool x.adm, .int .i64 x.p] 28)) := (Below.refl _ _).alloc (Nat.le_refl _) _
  have F5 : Five w (w4.alloc (.cells #[.int .i64 x.r, .bool x.adm, .int .i64 x.p] 28)) w2.heap.size w4.heap.size s x :=
    ⟨hbx4.below hb5 (by omega), Box.made w4 x 28, (hb5.cell (p := ⟨w2.heap.size, 0, none⟩) hz4).trans hf4, hbw4.trans (hb5.mono (by omega)), by simp; omega, by simp; omega, by simp⟩
  clear hb5 hbx4 hf4 hbw4
  revert F5
  generalize (w4.alloc (.cells #[.int .i64 x.r, .bool x.adm, .int .i64 x.p] 28)) = w5
  intro F5
  refine (counts_any w2.heap.size s x 0 _ F5.fs).mono ?_
  rintro e w6 ⟨rfl, hb6⟩
  have F6 := F5.step hb6
  clear F5 hb6
  obtain ⟨q0, q1, q2⟩ := F6.aa
  go_wp2_with fail
  refine (counts_any w2.heap.size s x q _ F6.fs).mono ?_
  rintro e w7 ⟨rfl, hb7⟩
  have F7 := F6.step hb7
  clear F6 hb7 q0 q1 q2
  obtain ⟨q0, q1, q2⟩ := F7.aa
  have q3 := F7.bx.2.2
  go_wp2_with fail
  refine (counts_any w2.heap.size s x x.p _ F7.fs).mono ?_
  rintro e w8 ⟨rfl, hb8⟩
  have F8 := F7.step hb8
  clear F7 hb8 q0 q1 q2 q3
  have q3 := F8.bx.2.2
  have hbw := F8.bw
  clear F8 hs hn hz2 hz4
  cases hA : act s
  · have hA' : (s.toList == [97, 99, 116, 105, 118, 101]) = false := hA
    clear hA
    go_wp2
    go_ret
    exact ⟨rfl, hbw⟩
  · have hA' : (s.toList == [97, 99, 116, 105, 118, 101]) = true := hA
    clear hA
    have hpp : (x.p == x.p) = true := by simp
    cases hp : (x.p == 0) <;> cases hq : (x.p == q)
    all_goals
      go_wp2
      go_ret
      exact ⟨rfl, hbw⟩

/-! ### The row's step -/
set_option maxRecDepth 100000 in
theorem lifted (os : Os) (started : os.Started) (H : Type) (enc : TypeId × Value → H) :
    ReturnsInHanded {} Try.checked os 5 .any (Rows.fnCountsInAcrossProjectsSpec.pre6 enc Try.prog Try.f5 Rows.fnCountsInAcrossProjectsRow.domain false) (Rows.fnCountsInAcrossProjectsSpec.post enc Try.prog Try.f5 false true false false) := by
  refine returnsInHanded_of_change (C := Try.checked) own started (by kernel_rfl) Try.func5
    (ChangeSpec.witness6 (enc := enc) (C := Try.checked) false ⟨#[], #[.string ByteArray.empty, .slice none 0 0, .agg #[.int .i64 0, .bool false, .int .i64 0], .int .i64 0], []⟩ 8 (by kernel_rfl) (by kernel_rfl) (by kernel_rfl) (by kernel_rfl)) ?_
  intro W base args ds gs before hval0 hW hcnd _
  have hval : ∀ (j : Nat) t v, Try.f5.params[j]? = some t → args[j]? = some v → Value.okWide Try.prog W .any base t v := hval0
  have hW' := hW
  obtain ⟨p, q, hA0, hV, rfl, hfz, hnd⟩ := hW
  have hA : DataW.TrodAll enc Try.prog W 0 (fun _ => true) true Try.f5.params.toList args.toList ds p := hA0
  rw [Try.params5] at hA hval
  obtain ⟨v0, vs0, d0, ds0, p0, q0, hargs, rfl, rfl, h0, r0⟩ := trodAll_cons hA
  obtain ⟨v1, vs1, d1, ds1, p1, q1, rfl, rfl, rfl, h1, r1⟩ := trodAll_cons r0
  obtain ⟨v2, vs2, d2, ds2, p2, q2, rfl, rfl, rfl, h2, r2⟩ := trodAll_cons r1
  obtain ⟨v3, vs3, d3, ds3, p3, q3, rfl, rfl, rfl, h3, r3⟩ := trodAll_cons r2
  obtain ⟨rfl, rfl, rfl⟩ := trodAll_nil r3
  obtain rfl : args = #[v0, v1, v2, v3] := by cases args; simp_all
  obtain ⟨rfl, rfl⟩ := trodVars_none hV
  obtain ⟨s0, rfl, rfl, rfl, w0⟩ := open_string Try.underlying9 (hval 0 9 v0 rfl rfl) h0
  obtain ⟨a1, len1, cap1, rfl⟩ := okWide_slice Try.underlying22 (hval 1 22 v1 rfl rfl)
  have k1 := h1
  have lt1 : ∀ x ∈ p1, x.block < W.heap.size := by obtain ⟨m, hm⟩ := k1; exact DataW.trod_lt m _ _ _ hm
  obtain ⟨b1, f1, c1⟩ := came_open h1
  obtain ⟨x2, rfl⟩ := asg_open (hval 2 24 v2 rfl rfl) h2
  have lt2 : ∀ x ∈ p2, x.block < W.heap.size := by obtain ⟨m, hm⟩ := h2; exact DataW.trod_lt m _ _ _ hm
  obtain ⟨a3, rfl, rfl, rfl, w3⟩ := open_int Try.underlying2 (hval 3 2 v3 rfl rfl) h3
  clear hA0 hval0
  refine (walk s0 a1 len1 cap1 f1 x2 a3 W (by unfold maxLen at w0; exact w0) b1 c1).mono fun e W' ⟨he, bel⟩ => ?_
  subst he
  exact ⟨_, rfl, _, _, _, [], _, [], hW', trodAll_mk1 (shut_bool Try.underlying4 _), (trodAll_cons_mk (shut_string Try.underlying9 w0) (trodAll_cons_mk (Below.trod laidOut (by kernel_rfl) (of_decide_eq_true (by kernel_rfl)) k1 bel lt1) (trodAll_cons_mk (Below.trod laidOut (by kernel_rfl) (of_decide_eq_true (by kernel_rfl)) h2 bel lt2) (trodAll_cons_mk (shut_int Try.underlying2 w3) trodAll_mk0)))), rfl, bel.frame _, fun h => by cases h⟩

theorem over : Rows.fnCountsInAcrossProjectsRow.holds Try.pinned (OpenSpec.ofChange Rows.fnCountsInAcrossProjectsSpec) :=
  OpenClaim.holds_of_wide 5 Try.f5 rfl rfl rfl rfl rfl rfl rfl ⟨rfl, rfl, rfl, rfl, rfl⟩ rfl rfl rfl rfl rfl (by kernel_rfl) Try.func5 (by kernel_rfl)
    (of_decide_eq_true (by kernel_rfl)) (by unfold Func.isWrapper; first | (rw [if_pos (by decide +kernel)]; kernel_rfl) | (rw [if_neg (by decide +kernel)]; exact ⟨rfl, rfl⟩))
    (fun os started H enc _ => lifted os started H enc)

/-- THE STATEMENT -/
theorem proved : Rows.FnCountsInAcrossProjectsSaid := over
end Go.Proofs.Qxb6612901a.fnCountsInAcrossProjects
