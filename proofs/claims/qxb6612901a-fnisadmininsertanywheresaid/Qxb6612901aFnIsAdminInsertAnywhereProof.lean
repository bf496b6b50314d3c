/- The proof of 'Rows.FnIsAdminInsertAnywhereSaid'. -/
import Derived.Test.Qxb6612901aFrame
namespace Go.Proofs.Qxb6612901a.fnIsAdminInsertAnywhere
open Go.ChangeShapes Go.WideShapes Go.ChangeAt Go.RowKit
open Go.ChangeMaps (open_string shut_string)
set_option linter.unusedVariables false

/-- x put in at place t of f -/
def ins (f : Nat → Asg) (x : Asg) (t : Nat) : Nat → Asg := fun j => if j < t then f j else if j = t then x else f (j - 1)

/-- .. as far as the second loop has come -/
def insTo (f : Nat → Asg) (x : Asg) (t k : Nat) : Nat → Asg := fun j => if j ≤ k then ins f x t j else Asg.zero

theorem anyG_ins (f : Nat → Asg) (x : Asg) (t n : Nat) (h : t ≤ n) : anyG (ins f x t) (n + 1) = (anyG f n || x.glob) := by
  have lo : anyG (ins f x t) t = anyG f t := anyG_congr fun i hi => by unfold ins; rw [if_pos hi]
  have step : ∀ d, anyG (ins f x t) (t + d + 1) = (anyG f (t + d) || x.glob) := by
    intro d
    induction d with
    | zero =>
      show (anyG (ins f x t) t || (ins f x t t).glob) = _
      rw [lo]; unfold ins; rw [if_neg (by omega), if_pos rfl]; rfl
    | succ d ih =>
      show (anyG (ins f x t) (t + d + 1) || (ins f x t (t + d + 1)).glob) = ((anyG f (t + d) || (f (t + d)).glob) || x.glob)
      have e : ins f x t (t + d + 1) = f (t + d) := by
        unfold ins; rw [if_neg (by omega), if_neg (by omega), show t + d + 1 - 1 = t + d by omega]
      rw [ih, e]
      cases anyG f (t + d) <;> cases (f (t + d)).glob <;> cases x.glob <;> rfl
  have := step (n - t)
  rwa [show t + (n - t) = n by omega] at this

theorem ins_start {w : World} {g n : Nat} {f : Nat → Asg} {x : Asg} {t : Nat} (h : Own w g n (upd (fill f t) t x)) : Own w g n (insTo f x t t) := by
  refine h.congr fun i _ => ?_
  unfold upd fill insTo ins
  by_cases e : i = t
  · subst e; simp
  · rw [if_neg e]
    by_cases l : i < t
    · simp [l, Nat.le_of_lt l]
    · rw [if_neg l, if_neg (by omega)]

theorem ins_next {w : World} {g n : Nat} {f : Nat → Asg} {x : Asg} {t k : Nat} (hk : t ≤ k) (h : Own w g n (upd (insTo f x t k) (k + 1) (f k))) : Own w g n (insTo f x t (k + 1)) := by
  refine h.congr fun i _ => ?_
  unfold upd insTo
  by_cases e : i = k + 1
  · subst e; unfold ins; simp; rw [if_neg (by omega), if_neg (by omega)]
  · rw [if_neg e]
    by_cases l : i ≤ k
    · rw [if_pos l, if_pos (by omega)]
    · rw [if_neg l, if_neg (by omega)]

theorem ins_done {w : World} {g n : Nat} {f : Nat → Asg} {x : Asg} {t k : Nat} (hk : n ≤ k + 1) (h : Own w g n (insTo f x t k)) : Own w g n (ins f x t) :=
  h.congr fun i hi => by unfold insTo; rw [if_pos (by omega)]

theorem ins_law (A G : Bool) (x : Asg) : ((A && (G || x.glob)) == (A && G || (A && x.adm && (x.p == 0)))) = true := by
  unfold Asg.glob
  cases A <;> cases G <;> cases x.adm <;> cases (x.p == 0) <;> rfl

set_option maxHeartbeats 2000000 in
theorem walk3_in (s : ByteArray) (a : Option Addr) (n c : Nat) (f : Nat → Asg) (x : Asg) (t : Nat) (w : World) (hs : s.size ≤ 9223372036854775807) (hn : n ≤ 9223372036854775807) (hc : Came w a n c f) :
    Calls Try.prog 3 #[.string s, .slice a n c, .agg #[.int .i64 x.r, .bool x.adm, .int .i64 x.p], .int .i64 t] w fun e w' => e = .returned (.bool true) ∧ Below w.heap.size w w' := by
  go_enter Try.func3, Try.ntmps3
  go_wp2_with fail
  refine (bytes7 s a n c x t _ hs hn).mono ?_
  rintro e w1 ⟨b, rfl, hb, hbel1⟩
  have hz1 : w.heap.size < w1.heap.size := by have := hbel1.size; simp at this; omega
  have hbx1 : Box w1 w.heap.size x := (Box.made w x 24).below hbel1 (by simp)
  have hbw1 : Below w.heap.size w w1 := ((Below.refl _ _).alloc (Nat.le_refl _) _).trans (hbel1.mono (by simp))
  clear hbel1
  cases b
  · go_wp2
    go_ret
    exact ⟨rfl, hbw1⟩
  rcases Nat.lt_or_ge 524288 s.size with h1 | h1
  · clear hbx1
    go_wp2
    go_ret
    exact ⟨rfl, hbw1⟩
  rcases Nat.lt_or_ge 16384 n with h2 | h2
  · clear hbx1
    go_wp2
    go_ret
    exact ⟨rfl, hbw1⟩
  rcases Nat.lt_or_ge n t with h4 | h4
  · clear hbx1
    go_wp2
    go_ret
    exact ⟨rfl, hbw1⟩
  clear hb
  go_wp2_with fail
  refine (held_any a n c f _ (by omega) (hc.alloc hbw1)).mono ?_
  rintro e w2 ⟨a', rfl, hO2, hbel2⟩
  have hz2 : w.heap.size < w2.heap.size := by have := hbel2.size; omega
  have hbx2 := hbx1.below hbel2 hz1
  have hbw2 := hbw1.trans (hbel2.mono (Nat.le_of_lt hz1))
  clear hbel2 hbx1 hbw1 hc
  have hmk := run_make3 (n + 1) (by omega)
  rw [show ((n + 1 : Nat) : Int) = (n : Int) + 1 by omega] at hmk
  go_wp2
  go_loopw [11] (fun i wr => ∃ k : Nat, k ≤ t ∧ i = .int .i64 k ∧ Own wr w2.heap.size (n + 1) (fill f k) ∧ Below w2.heap.size w2 wr) (fun i _ => t - (intOf i).toNat)
  case atStart => exact ⟨0, Nat.zero_le _, rfl, fill_none f (made3' _ _ _ (by omega)), (Below.refl _ _).alloc (Nat.le_refl _) _⟩
  case round =>
    obtain ⟨k, hk, rfl, ho, hbel⟩ := hrel
    by_cases hlt : k < t
    · obtain ⟨g, ha, hO⟩ := hO2.pos (by omega)
      subst ha
      have hg := hO.lt
      obtain ⟨q0, q1, q2⟩ := (hO.below hbel hg).cells (i := k) (by omega)
      obtain ⟨v0, v1, v2, p0, p1, p2, z0, z1, z2⟩ := ho.room (i := k) (by omega)
      go_wp2
      go_roundw
      case rel => exact ⟨k + 1, by omega, by go_num, fill_next rfl (ho.set k (f k)), below_set3 hbel (Nat.le_refl _) _ _ _⟩
      case measure => simp [intOf]; omega
    · have e : k = t := by omega
      subst e
      obtain ⟨q0, q1, q2⟩ := hbx2.below hbel hz2
      go_wp2_with fail
      refine (one_any x _).mono ?_
      rintro e w3 ⟨rfl, hb3⟩
      have ho3 := ho.below hb3 ho.lt
      have hbel3 := hbel.trans (hb3.mono hbel.size)
      obtain ⟨v0, v1, v2, p0, p1, p2, z0, z1, z2⟩ := ho3.room (i := k) (by omega)
      clear q0 q1 q2 hb3 ho hbel hmk
      go_wp2
      clear p0 p1 p2 z0 z1 z2
      go_loopw [12] (fun i wr => ∃ j : Nat, k ≤ j ∧ j ≤ n ∧ i = .int .i64 j ∧ Own wr w2.heap.size (n + 1) (insTo f x k j) ∧ Below w2.heap.size w2 wr) (fun i _ => n - (intOf i).toNat)
      case atStart => exact ⟨k, Nat.le_refl _, h4, rfl, ins_start (ho3.set k x), below_set3 hbel3 (Nat.le_refl _) _ _ _⟩
      case round =>
        obtain ⟨j, hkj, hj, rfl, ho, hbel⟩ := hrel
        clear ho3 hbel3
        by_cases hlt : j < n
        · obtain ⟨g, ha, hO⟩ := hO2.pos (by omega)
          subst ha
          have hg := hO.lt
          obtain ⟨q0, q1, q2⟩ := (hO.below hbel hg).cells (i := j) (by omega)
          obtain ⟨v0, v1, v2, p0, p1, p2, z0, z1, z2⟩ := ho.room (i := j + 1) (by omega)
          go_wp2
          go_roundw
          case rel => exact ⟨j + 1, by omega, by omega, by go_num, ins_next hkj (ho.set (j + 1) (f j)), below_set3 hbel (Nat.le_refl _) _ _ _⟩
          case measure => simp [intOf]; omega
        · have hI := ins_done (by omega) ho
          have hO := hO2.below hbel (Nat.le_refl _)
          have hbx := hbx2.below hbel hz2
          have hbw := hbw2.trans (hbel.mono (Nat.le_of_lt hz2))
          have hz := Nat.lt_of_lt_of_le hz2 hbel.size
          clear ho hbel hO2 hbx2 hbw2 hz2
          go_wp2_with fail
          refine (facts_any s a' n n _).mono ?_
          rintro e w4 ⟨rfl, rfl⟩
          go_wp2_with fail
          refine (admin_of_facts _ s a' n f _ (by omega) hO).mono ?_
          rintro e w5 ⟨rfl, hb5⟩
          have hI5 := hI.below hb5 hI.lt
          have hbx5 := hbx.below hb5 hz
          have hbw5 := hbw.trans (hb5.mono (Nat.le_of_lt hz))
          have hz5 := Nat.lt_of_lt_of_le hz hb5.size
          clear hO hI hbx hbw hz hb5
          go_wp2_with fail
          refine (facts_any s _ _ _ _).mono ?_
          rintro e w6 ⟨rfl, rfl⟩
          go_wp2_with fail
          refine (admin_of_facts 0 s _ (n + 1) (ins f x k) _ (by omega) (Or.inr ⟨_, rfl, Nat.zero_le _, hI5⟩)).mono ?_
          rintro e w7 ⟨rfl, hb7⟩
          have hbx7 := hbx5.below hb7 hz5
          have hbw7 := hbw5.trans (hb7.mono (Nat.le_of_lt hz5))
          clear hbx5 hbw5 hb7 hI5
          rw [anyG_ins f x k n h4]
          obtain ⟨q0, q1, q2⟩ := hbx7
          clear q0 hz5 hs hn
          unfold Asg.glob
          cases hA : act s
          · have hA' : (s.toList == [97, 99, 116, 105, 118, 101]) = false := hA
            clear hA
            go_wp2
            go_ret
            exact ⟨rfl, hbw7⟩
          · have hA' : (s.toList == [97, 99, 116, 105, 118, 101]) = true := hA
            clear hA
            cases hG : anyG f n
            · clear hG
              cases hx : x.adm
              · rw [hx] at q1
                go_wp2
                go_ret
                exact ⟨rfl, hbw7⟩
              · rw [hx] at q1
                cases hp : (x.p == 0)
                all_goals
                  go_wp2
                  go_ret
                  exact ⟨rfl, hbw7⟩
            · clear hG
              go_wp2
              go_ret
              exact ⟨rfl, hbw7⟩

theorem walk (s : ByteArray) (a : Option Addr) (n c : Nat) (f : Nat → Asg) (x : Asg) (t : Int) (w : World) (hs : s.size ≤ 9223372036854775807) (hn : n ≤ 9223372036854775807) (hc : Came w a n c f) :
    Calls Try.prog 3 #[.string s, .slice a n c, .agg #[.int .i64 x.r, .bool x.adm, .int .i64 x.p], .int .i64 t] w fun e w' => e = .returned (.bool true) ∧ Below w.heap.size w w' := by
  by_cases h3 : t < 0
  · go_enter Try.func3, Try.ntmps3
    go_wp2_with fail
    refine (bytes7 s a n c x t _ hs hn).mono ?_
    rintro e w1 ⟨b, rfl, hb, hbel1⟩
    have hbw1 : Below w.heap.size w w1 := ((Below.refl _ _).alloc (Nat.le_refl _) _).trans (hbel1.mono (by simp))
    clear hbel1
    cases b
    · go_wp2
      go_ret
      exact ⟨rfl, hbw1⟩
    · go_wp2
      all_goals
        go_ret
        exact ⟨rfl, hbw1⟩
  · obtain ⟨k, rfl⟩ : ∃ k : Nat, t = k := ⟨t.toNat, by omega⟩
    exact walk3_in s a n c f x k w hs hn hc

/-! ### The row's step -/
set_option maxRecDepth 100000 in
theorem lifted (os : Os) (started : os.Started) (H : Type) (enc : TypeId × Value → H) :
    ReturnsInHanded {} Try.checked os 3 .any (Rows.fnIsAdminInsertAnywhereSpec.pre6 enc Try.prog Try.f3 Rows.fnIsAdminInsertAnywhereRow.domain false) (Rows.fnIsAdminInsertAnywhereSpec.post enc Try.prog Try.f3 false true false false) := by
  refine returnsInHanded_of_change (C := Try.checked) own started (by kernel_rfl) Try.func3
    (ChangeSpec.witness6 (enc := enc) (C := Try.checked) false ⟨#[], #[.string ByteArray.empty, .slice none 0 0, .agg #[.int .i64 0, .bool false, .int .i64 0], .int .i64 0], []⟩ 8 (by kernel_rfl) (by kernel_rfl) (by kernel_rfl) (by kernel_rfl)) ?_
  intro W base args ds gs before hval0 hW hcnd _
  have hval : ∀ (j : Nat) t v, Try.f3.params[j]? = some t → args[j]? = some v → Value.okWide Try.prog W .any base t v := hval0
  have hW' := hW
  obtain ⟨p, q, hA0, hV, rfl, hfz, hnd⟩ := hW
  have hA : DataW.TrodAll enc Try.prog W 0 (fun _ => true) true Try.f3.params.toList args.toList ds p := hA0
  rw [Try.params3] at hA hval
  obtain ⟨v0, vs0, d0, ds0, p0, q0, hargs, rfl, rfl, h0, r0⟩ := trodAll_cons hA
  obtain ⟨v1, vs1, d1, ds1, p1, q1, rfl, rfl, rfl, h1, r1⟩ := trodAll_cons r0
  obtain ⟨v2, vs2, d2, ds2, p2, q2, rfl, rfl, rfl, h2, r2⟩ := trodAll_cons r1
  obtain ⟨v3, vs3, d3, ds3, p3, q3, rfl, rfl, rfl, h3, r3⟩ := trodAll_cons r2
  obtain ⟨rfl, rfl, rfl⟩ := trodAll_nil r3
  obtain rfl : args = #[v0, v1, v2, v3] := by cases args; simp_all
  obtain ⟨rfl, rfl⟩ := trodVars_none hV
  obtain ⟨s0, rfl, rfl, rfl, w0⟩ := open_string Try.underlying9 (hval 0 9 v0 rfl rfl) h0
  obtain ⟨a1, len1, cap1, rfl⟩ := okWide_slice Try.underlying22 (hval 1 22 v1 rfl rfl)
  have k1 := h1
  have lt1 : ∀ x ∈ p1, x.block < W.heap.size := by obtain ⟨m, hm⟩ := k1; exact DataW.trod_lt m _ _ _ hm
  obtain ⟨b1, f1, c1⟩ := came_open h1
  obtain ⟨x2, rfl⟩ := asg_open (hval 2 24 v2 rfl rfl) h2
  have lt2 : ∀ x ∈ p2, x.block < W.heap.size := by obtain ⟨m, hm⟩ := h2; exact DataW.trod_lt m _ _ _ hm
  obtain ⟨a3, rfl, rfl, rfl, w3⟩ := open_int Try.underlying3 (hval 3 3 v3 rfl rfl) h3
  clear hA0 hval0
  refine (walk s0 a1 len1 cap1 f1 x2 a3 W (by unfold maxLen at w0; exact w0) b1 c1).mono fun e W' ⟨he, bel⟩ => ?_
  subst he
  exact ⟨_, rfl, _, _, _, [], _, [], hW', trodAll_mk1 (shut_bool Try.underlying4 _), (trodAll_cons_mk (shut_string Try.underlying9 w0) (trodAll_cons_mk (Below.trod laidOut (by kernel_rfl) (of_decide_eq_true (by kernel_rfl)) k1 bel lt1) (trodAll_cons_mk (Below.trod laidOut (by kernel_rfl) (of_decide_eq_true (by kernel_rfl)) h2 bel lt2) (trodAll_cons_mk (shut_int Try.underlying3 w3) trodAll_mk0)))), rfl, bel.frame _, fun h => by cases h⟩

theorem over : Rows.fnIsAdminInsertAnywhereRow.holds Try.pinned (OpenSpec.ofChange Rows.fnIsAdminInsertAnywhereSpec) :=
  OpenClaim.holds_of_wide 3 Try.f3 rfl rfl rfl rfl rfl rfl rfl ⟨rfl, rfl, rfl, rfl, rfl⟩ rfl rfl rfl rfl rfl (by kernel_rfl) Try.func3 (by kernel_rfl)
    (of_decide_eq_true (by kernel_rfl)) (by unfold Func.isWrapper; first | (rw [if_pos (by decide +kernel)]; kernel_rfl) | (rw [if_neg (by decide +kernel)]; exact ⟨rfl, rfl⟩))
    (fun os started H enc _ => lifted os started H enc)

/-- THE STATEMENT -/
theorem proved : Rows.FnIsAdminInsertAnywhereSaid := over
end Go.Proofs.Qxb6612901a.fnIsAdminInsertAnywhere
