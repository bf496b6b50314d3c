/- The proof of 'Rows.FnCountsInAgreesWithIsAdminSaid'. -/
import Derived.Test.Qxb6612901aFrame
namespace Go.Proofs.Qxb6612901a.fnCountsInAgreesWithIsAdmin
open Go.ChangeShapes Go.WideShapes Go.ChangeAt Go.RowKit
open Go.ChangeMaps (open_string shut_string)
set_option linter.unusedVariables false

/-- x put behind the first n of f -/
def snoc (f : Nat → Asg) (x : Asg) (n : Nat) : Nat → Asg := fun j => if j < n then f j else x

theorem anyG_snoc (f : Nat → Asg) (x : Asg) (n : Nat) : anyG (snoc f x n) (n + 1) = (anyG f n || x.glob) := by
  have lo : anyG (snoc f x n) n = anyG f n := anyG_congr fun i hi => by unfold snoc; rw [if_pos hi]
  show (anyG (snoc f x n) n || (snoc f x n n).glob) = _
  rw [lo]; unfold snoc; rw [if_neg (by omega)]

theorem snoc_done {w : World} {g n : Nat} {f : Nat → Asg} {x : Asg} (h : Own w g (n + 1) (upd (fill f n) n x)) : Own w g (n + 1) (snoc f x n) := by
  refine h.congr fun i hi => ?_
  unfold upd fill snoc
  by_cases e : i = n
  · subst e; simp
  · rw [if_neg e, if_pos (by omega), if_pos (by omega)]

theorem made3'' (w : World) (n m g : Nat) (hm : m = n * 3) (hg : g = w.heap.size) :
    Own (w.alloc (.cells (madeCells #[.int .i64 0, .bool false, .int .i64 0] m) 28)) g n (fun _ => Asg.zero) := by
  subst hg; exact made3' w n m hm

/-- what the calls behind one another read -/
structure Six (w wc : World) (ba g : Nat) (x : Asg) (a : Option Addr) (n : Nat) (f fa : Nat → Asg) : Prop where
  bx : Box wc w.heap.size x
  aa : Box wc ba x
  bo : OwnS 0 wc (.slice a n n) n f
  wa : Own wc g (n + 1) fa
  bw : Below w.heap.size w wc
  z0 : w.heap.size < wc.heap.size
  za : ba < wc.heap.size

theorem Six.step {w wc wc' : World} {ba g : Nat} {x : Asg} {a : Option Addr} {n : Nat} {f fa : Nat → Asg} (h : Six w wc ba g x a n f fa) (hb : Below wc.heap.size wc wc') : Six w wc' ba g x a n f fa :=
  ⟨h.bx.below hb h.z0, h.aa.below hb h.za, h.bo.below hb (Nat.le_refl _), h.wa.below hb h.wa.lt, h.bw.trans (hb.mono (Nat.le_of_lt h.z0)), Nat.lt_of_lt_of_le h.z0 hb.size, Nat.lt_of_lt_of_le h.za hb.size⟩

theorem ownS_mono {B B' : Nat} {w : World} {v : Value} {n : Nat} {f : Nat → Asg} (h : OwnS B w v n f) (hB : B' ≤ B) : OwnS B' w v n f := by
  rcases h with h | ⟨g, rfl, hg, ho⟩
  · exact Or.inl h
  · exact Or.inr ⟨g, rfl, Nat.le_trans hB hg, ho⟩

/-- the cells of facts that were made earlier -/
def Fac (w : World) (b : Nat) (s : ByteArray) (v : Value) : Prop := w.cell? ⟨b, 0, none⟩ = some (.string s) ∧ w.cell? ⟨b, 1, none⟩ = some v ∧ b < w.heap.size

theorem Fac.made (w : World) (s : ByteArray) (v : Value) : Fac (w.alloc (.cells #[.string s, v] 38)) w.heap.size s v :=
  ⟨(facts_cells w _ _).1, (facts_cells w _ _).2, by simp⟩

theorem Fac.step {w w' : World} {b : Nat} {s : ByteArray} {v : Value} (h : Fac w b s v) (hb : Below w.heap.size w w') : Fac w' b s v :=
  ⟨(hb.cell (p := ⟨b, 0, none⟩) h.2.2).trans h.1, (hb.cell (p := ⟨b, 1, none⟩) h.2.2).trans h.2.1, Nat.lt_of_lt_of_le h.2.2 hb.size⟩

theorem below_new (w : World) (o : Obj) : Below w.heap.size w (w.alloc o) := (Below.refl _ _).alloc (Nat.le_refl _) _

set_option maxHeartbeats 2000000 in
theorem walk (s : ByteArray) (a : Option Addr) (n c : Nat) (f : Nat → Asg) (x : Asg) (q : Int) (w : World) (hs : s.size ≤ 9223372036854775807) (hn : n ≤ 9223372036854775807) (hc : Came w a n c f) :
    Calls Try.prog 6 #[.string s, .slice a n c, .agg #[.int .i64 x.r, .bool x.adm, .int .i64 x.p], .int .i64 q] w fun e w' => e = .returned (.bool true) ∧ Below w.heap.size w w' := by
  go_enter Try.func6, Try.ntmps6
  go_wp2_with fail
  refine (bytes15 s a n c x q _ hs hn).mono ?_
  rintro e w1 ⟨b, rfl, hb, hbel1⟩
  have hz1 : w.heap.size < w1.heap.size := by have := hbel1.size; simp at this; omega
  have hbx1 : Box w1 w.heap.size x := (Box.made w x 24).below hbel1 (by simp)
  have hbw1 : Below w.heap.size w w1 := ((Below.refl _ _).alloc (Nat.le_refl _) _).trans (hbel1.mono (by simp))
  clear hbel1
  cases b
  · go_wp2
    go_ret
    exact ⟨rfl, hbw1⟩
  rcases Nat.lt_or_ge 524288 s.size with h1 | h1
  · clear hbx1
    go_wp2
    go_ret
    exact ⟨rfl, hbw1⟩
  rcases Nat.lt_or_ge 16384 n with h2 | h2
  · clear hbx1
    go_wp2
    go_ret
    exact ⟨rfl, hbw1⟩
  clear hb
  go_wp2_with fail
  refine (held_any a n c f _ (by omega) (hc.alloc hbw1)).mono ?_
  rintro e w2 ⟨a', rfl, hO2, hbel2⟩
  have hz2 : w.heap.size < w2.heap.size := by have := hbel2.size; omega
  have hbx2 := hbx1.below hbel2 hz1
  have hbw2 := hbw1.trans (hbel2.mono (Nat.le_of_lt hz1))
  clear hbel2 hbx1 hbw1 hc hz1
  obtain ⟨q0, q1, q2⟩ := hbx2
  go_wp2_with fail
  refine (one_any x _).mono ?_
  rintro e w3 ⟨rfl, hb3⟩
  have hbx3 : Box w3 w.heap.size x := Box.below ⟨q0, q1, q2⟩ hb3 (by omega)
  have hO3 := ownS_mono (hO2.below hb3 (Nat.le_refl _)) (Nat.zero_le _)
  have hbw3 := hbw2.trans (hb3.mono (by omega))
  have hz3 : w.heap.size < w3.heap.size := Nat.lt_of_lt_of_le hz2 hb3.size
  clear q0 q1 q2 hbw2 hb3 hz2 hO2
  have hmk := run_make3 (n + 1) (by omega)
  rw [show ((n + 1 : Nat) : Int) = (n : Int) + 1 by omega] at hmk
  go_wp2
  have hb4 := below_new w3 (.cells #[.int .i64 x.r, .bool x.adm, .int .i64 x.p] 28)
  have hbx4 := hbx3.below hb4 hz3
  have haa4 := Box.made w3 x 28
  have hO4 := hO3.below hb4 (Nat.le_refl _)
  have hbw4 := hbw3.trans (hb4.mono (Nat.le_of_lt hz3))
  clear hb4 hbx3 hO3 hbw3 hmk
  go_loopw [13] (fun i wr => ∃ k : Nat, k ≤ n ∧ i = .int .i64 k ∧ Own wr (w3.heap.size + 1) (n + 1) (fill f k) ∧ Below (w3.heap.size + 1) (w3.alloc (.cells #[.int .i64 x.r, .bool x.adm, .int .i64 x.p] 28)) wr) (fun i _ => n - (intOf i).toNat)
  case atStart => exact ⟨0, Nat.zero_le _, rfl, fill_none f (made3'' _ _ _ _ (by omega) (by simp)), (Below.refl _ _).alloc (by simp) _⟩
  case round =>
    obtain ⟨k, hk, rfl, ho, hbel⟩ := hrel
    by_cases hlt : k < n
    · obtain ⟨g, ha, hO⟩ := hO4.pos (by omega)
      subst ha
      have hg := hO.lt
      simp at hg
      obtain ⟨q0, q1, q2⟩ := (hO.below hbel hg).cells (i := k) (by omega)
      obtain ⟨v0, v1, v2, p0, p1, p2, z0, z1, z2⟩ := ho.room (i := k) (by omega)
      clear hbx4 haa4 hO4 hbw4
      go_wp2
      go_roundw
      case rel => exact ⟨k + 1, by omega, by go_num, fill_next rfl (ho.set k (f k)), below_set3 hbel (Nat.le_refl _) _ _ _⟩
      case measure => simp [intOf]; omega
    · have e : k = n := by omega
      subst e
      obtain ⟨v0, v1, v2, p0, p1, p2, z0, z1, z2⟩ := ho.room (i := k) (by omega)
      obtain ⟨q0, q1, q2⟩ := haa4.below hbel (by omega)
      have hsz := hbel.size
      simp at hsz
      have S : Six w (((wr.setCell ⟨w3.heap.size + 1, k * 3, none⟩ (.int .i64 x.r)).setCell ⟨w3.heap.size + 1, k * 3 + 1, none⟩ (.bool x.adm)).setCell ⟨w3.heap.size + 1, k * 3 + 2, none⟩ (.int .i64 x.p)) w3.heap.size (w3.heap.size + 1) x a' k f (snoc f x k) := by
        have hb5 := below_set3 hbel (g := w3.heap.size + 1) (i := k * 3) (Nat.le_refl _) (.int .i64 x.r) (.bool x.adm) (.int .i64 x.p)
        exact ⟨hbx4.below hb5 (by omega), haa4.below hb5 (by omega), hO4.below hb5 (by simp), snoc_done (ho.set k x), hbw4.trans (hb5.mono (by omega)), Nat.lt_of_lt_of_le (by simp; omega) hb5.size, Nat.lt_of_lt_of_le (by simp) hb5.size⟩
      clear hbx4 haa4 hO4 hbw4 ho hbel
      go_wp2_with fail
      revert S
      generalize (((wr.setCell ⟨w3.heap.size + 1, k * 3, none⟩ (.int .i64 x.r)).setCell ⟨w3.heap.size + 1, k * 3 + 1, none⟩ (.bool x.adm)).setCell ⟨w3.heap.size + 1, k * 3 + 2, none⟩ (.int .i64 x.p)) = w5
      intro S
      clear p0 p1 p2 z0 z1 z2 q0 q1 q2 hsz hs
      refine (facts_any s a' k k _).mono ?_
      rintro e w6 ⟨rfl, rfl⟩
      have F6 := Fac.made w5 s (.slice a' k k)
      have S6 := S.step (below_new w5 (.cells #[.string s, .slice a' k k] 38))
      clear S
      revert F6 S6
      generalize (w5.alloc (.cells #[.string s, .slice a' k k] 38)) = w6
      intro F6 S6
      go_wp2_with fail
      refine (facts_any s none 0 0 _).mono ?_
      rintro e w7 ⟨rfl, rfl⟩
      have E7 := Fac.made w6 s (.slice none 0 0)
      have F7 := F6.step (below_new w6 (.cells #[.string s, .slice none 0 0] 38))
      have S7 := S6.step (below_new w6 (.cells #[.string s, .slice none 0 0] 38))
      clear F6 S6
      revert E7 F7 S7
      generalize (w6.alloc (.cells #[.string s, .slice none 0 0] 38)) = w7
      intro E7 F7 S7
      obtain ⟨q0, q1, q2⟩ := S7.aa
      go_wp2_with fail
      refine (counts_any w5.heap.size s x q _ F7.1).mono ?_
      rintro e w8 ⟨rfl, hb8⟩
      have E8 := E7.step hb8
      have F8 := F7.step hb8
      have S8 := S7.step hb8
      clear E7 F7 S7 hb8 q0 q1 q2
      obtain ⟨q0, q1, q2⟩ := S8.aa
      go_wp2_with fail
      refine (counts_any w6.heap.size s x q _ E8.1).mono ?_
      rintro e w9 ⟨rfl, hb9⟩
      have F9 := F8.step hb9
      have S9 := S8.step hb9
      clear E8 F8 S8 hb9 q0 q1 q2
      obtain ⟨q0, q1, q2⟩ := S9.aa
      go_wp2_with fail
      refine (counts_any w5.heap.size s x 0 _ F9.1).mono ?_
      rintro e w10 ⟨rfl, hb10⟩
      have F10 := F9.step hb10
      have S10 := S9.step hb10
      clear F9 S9 hb10 q0 q1 q2
      go_wp2_with fail
      refine (admin_any w5.heap.size 0 s a' k f _ (by omega) F10.1 F10.2.1 S10.bo).mono ?_
      rintro e w11 ⟨rfl, hb11⟩
      have S11 := S10.step hb11
      clear F10 S10 hb11
      go_wp2_with fail
      refine (facts_any s _ _ _ _).mono ?_
      rintro e w12 ⟨rfl, rfl⟩
      go_wp2_with fail
      refine (admin_of_facts 0 s _ (k + 1) (snoc f x k) _ (by omega) (Or.inr ⟨_, rfl, Nat.zero_le _, S11.wa⟩)).mono ?_
      rintro e w13 ⟨rfl, hb13⟩
      have S13 := S11.step hb13
      clear S11 hb13
      rw [anyG_snoc f x k]
      obtain ⟨q0, q1, q2⟩ := S13.bx
      have hbw := S13.bw
      clear S13 q0
      unfold Asg.glob
      cases hA : act s
      · have hA' : (s.toList == [97, 99, 116, 105, 118, 101]) = false := hA
        clear hA
        cases hx : x.adm
        all_goals
          rw [hx] at q1
          go_wp2
          go_ret
          exact ⟨rfl, hbw⟩
      · have hA' : (s.toList == [97, 99, 116, 105, 118, 101]) = true := hA
        clear hA
        cases hG : anyG f k
        all_goals
          clear hG
          cases hx : x.adm
          all_goals
            rw [hx] at q1
            cases hp : (x.p == 0) <;> cases hq : (x.p == q)
            all_goals
              go_wp2
              go_ret
              exact ⟨rfl, hbw⟩

/-! ### The row's step -/
set_option maxRecDepth 100000 in
theorem lifted (os : Os) (started : os.Started) (H : Type) (enc : TypeId × Value → H) :
    ReturnsInHanded {} Try.checked os 6 .any (Rows.fnCountsInAgreesWithIsAdminSpec.pre6 enc Try.prog Try.f6 Rows.fnCountsInAgreesWithIsAdminRow.domain false) (Rows.fnCountsInAgreesWithIsAdminSpec.post enc Try.prog Try.f6 false true false false) := by
  refine returnsInHanded_of_change (C := Try.checked) own started (by kernel_rfl) Try.func6
    (ChangeSpec.witness6 (enc := enc) (C := Try.checked) false ⟨#[], #[.string ByteArray.empty, .slice none 0 0, .agg #[.int .i64 0, .bool false, .int .i64 0], .int .i64 0], []⟩ 8 (by kernel_rfl) (by kernel_rfl) (by kernel_rfl) (by kernel_rfl)) ?_
  intro W base args ds gs before hval0 hW hcnd _
  have hval : ∀ (j : Nat) t v, Try.f6.params[j]? = some t → args[j]? = some v → Value.okWide Try.prog W .any base t v := hval0
  have hW' := hW
  obtain ⟨p, q, hA0, hV, rfl, hfz, hnd⟩ := hW
  have hA : DataW.TrodAll enc Try.prog W 0 (fun _ => true) true Try.f6.params.toList args.toList ds p := hA0
  rw [Try.params6] at hA hval
  obtain ⟨v0, vs0, d0, ds0, p0, q0, hargs, rfl, rfl, h0, r0⟩ := trodAll_cons hA
  obtain ⟨v1, vs1, d1, ds1, p1, q1, rfl, rfl, rfl, h1, r1⟩ := trodAll_cons r0
  obtain ⟨v2, vs2, d2, ds2, p2, q2, rfl, rfl, rfl, h2, r2⟩ := trodAll_cons r1
  obtain ⟨v3, vs3, d3, ds3, p3, q3, rfl, rfl, rfl, h3, r3⟩ := trodAll_cons r2
  obtain ⟨rfl, rfl, rfl⟩ := trodAll_nil r3
  obtain rfl : args = #[v0, v1, v2, v3] := by cases args; simp_all
  obtain ⟨rfl, rfl⟩ := trodVars_none hV
  obtain ⟨s0, rfl, rfl, rfl, w0⟩ := open_string Try.underlying9 (hval 0 9 v0 rfl rfl) h0
  obtain ⟨a1, len1, cap1, rfl⟩ := okWide_slice Try.underlying22 (hval 1 22 v1 rfl rfl)
  have k1 := h1
  have lt1 : ∀ x ∈ p1, x.block < W.heap.size := by obtain ⟨m, hm⟩ := k1; exact DataW.trod_lt m _ _ _ hm
  obtain ⟨b1, f1, c1⟩ := came_open h1
  obtain ⟨x2, rfl⟩ := asg_open (hval 2 24 v2 rfl rfl) h2
  have lt2 : ∀ x ∈ p2, x.block < W.heap.size := by obtain ⟨m, hm⟩ := h2; exact DataW.trod_lt m _ _ _ hm
  obtain ⟨a3, rfl, rfl, rfl, w3⟩ := open_int Try.underlying2 (hval 3 2 v3 rfl rfl) h3
  clear hA0 hval0
  refine (walk s0 a1 len1 cap1 f1 x2 a3 W (by unfold maxLen at w0; exact w0) b1 c1).mono fun e W' ⟨he, bel⟩ => ?_
  subst he
  exact ⟨_, rfl, _, _, _, [], _, [], hW', trodAll_mk1 (shut_bool Try.underlying4 _), (trodAll_cons_mk (shut_string Try.underlying9 w0) (trodAll_cons_mk (Below.trod laidOut (by kernel_rfl) (of_decide_eq_true (by kernel_rfl)) k1 bel lt1) (trodAll_cons_mk (Below.trod laidOut (by kernel_rfl) (of_decide_eq_true (by kernel_rfl)) h2 bel lt2) (trodAll_cons_mk (shut_int Try.underlying2 w3) trodAll_mk0)))), rfl, bel.frame _, fun h => by cases h⟩

theorem over : Rows.fnCountsInAgreesWithIsAdminRow.holds Try.pinned (OpenSpec.ofChange Rows.fnCountsInAgreesWithIsAdminSpec) :=
  OpenClaim.holds_of_wide 6 Try.f6 rfl rfl rfl rfl rfl rfl rfl ⟨rfl, rfl, rfl, rfl, rfl⟩ rfl rfl rfl rfl rfl (by kernel_rfl) Try.func6 (by kernel_rfl)
    (of_decide_eq_true (by kernel_rfl)) (by unfold Func.isWrapper; first | (rw [if_pos (by decide +kernel)]; kernel_rfl) | (rw [if_neg (by decide +kernel)]; exact ⟨rfl, rfl⟩))
    (fun os started H enc _ => lifted os started H enc)

/-- THE STATEMENT -/
theorem proved : Rows.FnCountsInAgreesWithIsAdminSaid := over
end Go.Proofs.Qxb6612901a.fnCountsInAgreesWithIsAdmin
