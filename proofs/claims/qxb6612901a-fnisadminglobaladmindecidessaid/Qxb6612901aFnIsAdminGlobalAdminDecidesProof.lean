/- The proof of 'Rows.FnIsAdminGlobalAdminDecidesSaid'. -/
import Derived.Test.Qxb6612901aFrame
namespace Go.Proofs.Qxb6612901a.fnIsAdminGlobalAdminDecides
open Go.ChangeShapes Go.WideShapes Go.ChangeAt Go.RowKit
open Go.ChangeMaps (open_string shut_string)
set_option linter.unusedVariables false

/-- x put behind the first n of f -/
def snoc (f : Nat → Asg) (x : Asg) (n : Nat) : Nat → Asg := fun j => if j < n then f j else x

theorem anyG_snoc (f : Nat → Asg) (x : Asg) (n : Nat) : anyG (snoc f x n) (n + 1) = (anyG f n || x.glob) := by
  have lo : anyG (snoc f x n) n = anyG f n := anyG_congr fun i hi => by unfold snoc; rw [if_pos hi]
  show (anyG (snoc f x n) n || (snoc f x n n).glob) = _
  rw [lo]; unfold snoc; rw [if_neg (by omega)]

theorem snoc_done {w : World} {g n : Nat} {f : Nat → Asg} {x : Asg} (h : Own w g (n + 1) (upd (fill f n) n x)) : Own w g (n + 1) (snoc f x n) := by
  refine h.congr fun i hi => ?_
  unfold upd fill snoc
  by_cases e : i = n
  · subst e; simp
  · rw [if_neg e, if_pos (by omega), if_pos (by omega)]

theorem made3'' (w : World) (n m g : Nat) (hm : m = n * 3) (hg : g = w.heap.size) :
    Own (w.alloc (.cells (madeCells #[.int .i64 0, .bool false, .int .i64 0] m) 28)) g n (fun _ => Asg.zero) := by
  subst hg; exact made3' w n m hm

theorem ownS_mono {B B' : Nat} {w : World} {v : Value} {n : Nat} {f : Nat → Asg} (h : OwnS B w v n f) (hB : B' ≤ B) : OwnS B' w v n f := by
  rcases h with h | ⟨g, rfl, hg, ho⟩
  · exact Or.inl h
  · exact Or.inr ⟨g, rfl, Nat.le_trans hB hg, ho⟩

theorem below_new (w : World) (o : Obj) : Below w.heap.size w (w.alloc o) := (Below.refl _ _).alloc (Nat.le_refl _) _


theorem act_active : act (⟨#[97, 99, 116, 105, 118, 101]⟩ : ByteArray) = true := by decide +kernel

/-- f backwards -/
def rv (f : Nat → Asg) (n : Nat) : Nat → Asg := fun j => f (n - 1 - j)

theorem anyG_iff (f : Nat → Asg) (n : Nat) : anyG f n = true ↔ ∃ i, i < n ∧ (f i).glob = true := by
  induction n with
  | zero => simp [anyG]
  | succ n ih =>
    unfold anyG
    rw [Bool.or_eq_true, ih]
    constructor
    · rintro (⟨i, hi, h⟩ | h)
      · exact ⟨i, by omega, h⟩
      · exact ⟨n, by omega, h⟩
    · rintro ⟨i, hi, h⟩
      by_cases e : i = n
      · subst e; exact Or.inr h
      · exact Or.inl ⟨i, by omega, h⟩

theorem anyG_rv (f : Nat → Asg) (n : Nat) : anyG (rv f n) n = anyG f n := by
  rw [Bool.eq_iff_iff, anyG_iff, anyG_iff]
  constructor
  · rintro ⟨i, hi, h⟩; exact ⟨n - 1 - i, by omega, h⟩
  · rintro ⟨i, hi, h⟩
    refine ⟨n - 1 - i, by omega, ?_⟩
    unfold rv
    rwa [show n - 1 - (n - 1 - i) = i by omega]

/-- what the calls behind one another read -/
structure Four (w wc : World) (g1 g2 : Nat) (a : Option Addr) (n : Nat) (f fa fb : Nat → Asg) : Prop where
  bo : OwnS 0 wc (.slice a n n) n f
  wa : Own wc g1 (n + 1) fa
  rb : Own wc g2 n fb
  bw : Below w.heap.size w wc
  z0 : w.heap.size ≤ wc.heap.size

theorem Four.step {w wc wc' : World} {g1 g2 : Nat} {a : Option Addr} {n : Nat} {f fa fb : Nat → Asg} (h : Four w wc g1 g2 a n f fa fb) (hb : Below wc.heap.size wc wc') : Four w wc' g1 g2 a n f fa fb :=
  ⟨h.bo.below hb (Nat.le_refl _), h.wa.below hb h.wa.lt, h.rb.below hb h.rb.lt, h.bw.trans (hb.mono h.z0), Nat.le_trans h.z0 hb.size⟩

theorem own_other {w : World} {g n : Nat} {f : Nat → Asg} (h : Own w g n f) {g' i : Nat} (hne : g ≠ g') (u0 u1 u2 : Value) :
    Own (((w.setCell ⟨g', i, none⟩ u0).setCell ⟨g', i + 1, none⟩ u1).setCell ⟨g', i + 2, none⟩ u2) g n f :=
  ((World.rowIs.setOther h (a := ⟨g', i, none⟩) hne u0).setOther (a := ⟨g', i + 1, none⟩) hne u1).setOther (a := ⟨g', i + 2, none⟩) hne u2

set_option maxHeartbeats 2000000 in
theorem walk (s : ByteArray) (a : Option Addr) (n c : Nat) (f : Nat → Asg) (role : Int) (w : World) (hs : s.size ≤ 9223372036854775807) (hn : n ≤ 9223372036854775807) (hc : Came w a n c f) :
    Calls Try.prog 4 #[.string s, .slice a n c, .int .i64 role] w fun e w' => e = .returned (.bool true) ∧ Below w.heap.size w w' := by
  go_enter Try.func4, Try.ntmps4
  go_wp2_with fail
  refine (bytes12 s a n c role _ hs hn).mono ?_
  rintro e w1 ⟨b, rfl, hb, hbw1⟩
  have hz1 : w.heap.size ≤ w1.heap.size := hbw1.size
  cases b
  · go_wp2
    go_ret
    exact ⟨rfl, hbw1⟩
  rcases Nat.lt_or_ge 524288 s.size with h1 | h1
  · go_wp2
    go_ret
    exact ⟨rfl, hbw1⟩
  rcases Nat.lt_or_ge 16384 n with h2 | h2
  · go_wp2
    go_ret
    exact ⟨rfl, hbw1⟩
  clear hb
  go_wp2_with fail
  refine (held_any a n c f _ (by omega) (hc.alloc hbw1)).mono ?_
  rintro e w2 ⟨a', rfl, hO2', hbel2⟩
  have hO2 := ownS_mono hO2' (Nat.zero_le _)
  have hz2 : w.heap.size ≤ w2.heap.size := by have := hbel2.size; omega
  have hbw2 := hbw1.trans (hbel2.mono hz1)
  clear hbel2 hbw1 hc hz1 hO2'
  have hmk := run_make3 (n + 1) (by omega)
  rw [show ((n + 1 : Nat) : Int) = (n : Int) + 1 by omega] at hmk
  have hmk2 := run_make3 n (by omega)
  go_wp2
  clear hmk hmk2
  go_loopw [11] (fun i wr => ∃ k : Nat, k ≤ n ∧ i = .int .i64 k ∧ Own wr w2.heap.size (n + 1) (fill f k) ∧ Own wr (w2.heap.size + 1) n (fill (rv f n) k) ∧ Below w2.heap.size w2 wr) (fun i _ => n - (intOf i).toNat)
  case atStart => exact ⟨0, Nat.zero_le _, rfl, fill_none f ((made3'' _ _ _ _ (by omega) rfl).below (below_new _ _) (by simp)), fill_none _ (made3'' _ _ _ _ rfl (by simp)), (below_new _ _).trans ((below_new _ _).mono (by simp))⟩
  case round =>
    obtain ⟨k, hk, rfl, ho, hr, hbel⟩ := hrel
    by_cases hlt : k < n
    · obtain ⟨g, ha, hO⟩ := hO2.pos (by omega)
      subst ha
      have hg := hO.lt
      obtain ⟨q0, q1, q2⟩ := (hO.below hbel hg).cells (i := k) (by omega)
      obtain ⟨d, hd⟩ : ∃ d, d = n - 1 - k := ⟨_, rfl⟩
      have hdi : (n : Int) - 1 - (k : Int) = (d : Int) := by omega
      obtain ⟨r0, r1, r2⟩ := (hO.below hbel hg).cells (i := d) (by omega)
      obtain ⟨v0, v1, v2, p0, p1, p2, z0, z1, z2⟩ := ho.room (i := k) (by omega)
      obtain ⟨y0, y1, y2, s0, s1, s2, t0, t1, t2⟩ := hr.room (i := k) (by omega)
      have HD : Hid (d = n - 1 - k) := hd
      have hdn : d < n := by omega
      clear hd
      go_wp2
      go_roundw
      case rel =>
        exact ⟨k + 1, by omega, by go_num, own_other (fill_next rfl (ho.set k (f k))) (by omega) _ _ _, fill_next (by unfold rv; rw [HD.out]) ((own_other hr (by omega) _ _ _).set k (f d)), below_set3 (below_set3 hbel (Nat.le_refl _) _ _ _) (Nat.le_succ _) _ _ _⟩
      case measure => simp [intOf]; omega
    · have e : k = n := by omega
      subst e
      obtain ⟨v0, v1, v2, p0, p1, p2, z0, z1, z2⟩ := ho.room (i := k) (by omega)
      have S : Four w (((wr.setCell ⟨w2.heap.size, k * 3, none⟩ (.int .i64 role)).setCell ⟨w2.heap.size, k * 3 + 1, none⟩ (.bool true)).setCell ⟨w2.heap.size, k * 3 + 2, none⟩ (.int .i64 0)) w2.heap.size (w2.heap.size + 1) a' k f (snoc f ⟨role, true, 0⟩ k) (rv f k) := by
        have hb5 := below_set3 hbel (g := w2.heap.size) (i := k * 3) (Nat.le_refl _) (.int .i64 role) (.bool true) (.int .i64 0)
        exact ⟨hO2.below hb5 (Nat.le_refl _), snoc_done (ho.set k ⟨role, true, 0⟩), own_other (fill_done (Nat.le_refl _) hr) (by omega) _ _ _, hbw2.trans (hb5.mono hz2), Nat.le_trans hz2 hb5.size⟩
      clear hO2 ho hr hbel hbw2
      go_wp2_with fail
      revert S
      generalize (((wr.setCell ⟨w2.heap.size, k * 3, none⟩ (.int .i64 role)).setCell ⟨w2.heap.size, k * 3 + 1, none⟩ (.bool true)).setCell ⟨w2.heap.size, k * 3 + 2, none⟩ (.int .i64 0)) = w5
      intro S
      clear p0 p1 p2 z0 z1 z2 hs
      refine (facts_any s _ _ _ _).mono ?_
      rintro e w6 ⟨rfl, rfl⟩
      go_wp2_with fail
      refine (admin_of_facts 0 s _ (k + 1) (snoc f ⟨role, true, 0⟩ k) _ (by omega) (Or.inr ⟨_, rfl, Nat.zero_le _, S.wa⟩)).mono ?_
      rintro e w7 ⟨rfl, hb7⟩
      have S7 := S.step hb7
      clear S hb7
      go_wp2_with fail
      refine (facts_any s _ _ _ _).mono ?_
      rintro e w8 ⟨rfl, rfl⟩
      go_wp2_with fail
      refine (admin_of_facts 0 s _ k f _ (by omega) S7.bo).mono ?_
      rintro e w9 ⟨rfl, hb9⟩
      have S9 := S7.step hb9
      clear S7 hb9
      go_wp2_with fail
      refine (facts_any s _ _ _ _).mono ?_
      rintro e w10 ⟨rfl, rfl⟩
      go_wp2_with fail
      refine (admin_of_facts 0 s _ k (rv f k) _ (by omega) (Or.inr ⟨_, rfl, Nat.zero_le _, S9.rb⟩)).mono ?_
      rintro e w11 ⟨rfl, hb11⟩
      have S11 := S9.step hb11
      clear S9 hb11
      go_wp2_with fail
      refine (facts_any _ _ _ _ _).mono ?_
      rintro e w12 ⟨rfl, rfl⟩
      go_wp2_with fail
      refine (admin_of_facts 0 _ _ k f _ (by omega) S11.bo).mono ?_
      rintro e w13 ⟨rfl, hb13⟩
      have hbw := (S11.step hb13).bw
      clear S11 hb13
      rw [anyG_snoc, anyG_rv, act_active]
      unfold Asg.glob
      cases hA : act s
      · have hA' : (s.toList == [97, 99, 116, 105, 118, 101]) = false := hA
        clear hA
        go_wp2
        go_ret
        exact ⟨rfl, hbw⟩
      · have hA' : (s.toList == [97, 99, 116, 105, 118, 101]) = true := hA
        clear hA
        cases hG : anyG f k
        all_goals
          clear hG
          go_wp2
          go_ret
          exact ⟨rfl, hbw⟩

/-! ### The row's step -/
set_option maxRecDepth 100000 in
theorem lifted (os : Os) (started : os.Started) (H : Type) (enc : TypeId × Value → H) :
    ReturnsInHanded {} Try.checked os 4 .any (Rows.fnIsAdminGlobalAdminDecidesSpec.pre6 enc Try.prog Try.f4 Rows.fnIsAdminGlobalAdminDecidesRow.domain false) (Rows.fnIsAdminGlobalAdminDecidesSpec.post enc Try.prog Try.f4 false true false false) := by
  refine returnsInHanded_of_change (C := Try.checked) own started (by kernel_rfl) Try.func4
    (ChangeSpec.witness6 (enc := enc) (C := Try.checked) false ⟨#[], #[.string ByteArray.empty, .slice none 0 0, .int .i64 0], []⟩ 8 (by kernel_rfl) (by kernel_rfl) (by kernel_rfl) (by kernel_rfl)) ?_
  intro W base args ds gs before hval0 hW hcnd _
  have hval : ∀ (j : Nat) t v, Try.f4.params[j]? = some t → args[j]? = some v → Value.okWide Try.prog W .any base t v := hval0
  have hW' := hW
  obtain ⟨p, q, hA0, hV, rfl, hfz, hnd⟩ := hW
  have hA : DataW.TrodAll enc Try.prog W 0 (fun _ => true) true Try.f4.params.toList args.toList ds p := hA0
  rw [Try.params4] at hA hval
  obtain ⟨v0, vs0, d0, ds0, p0, q0, hargs, rfl, rfl, h0, r0⟩ := trodAll_cons hA
  obtain ⟨v1, vs1, d1, ds1, p1, q1, rfl, rfl, rfl, h1, r1⟩ := trodAll_cons r0
  obtain ⟨v2, vs2, d2, ds2, p2, q2, rfl, rfl, rfl, h2, r2⟩ := trodAll_cons r1
  obtain ⟨rfl, rfl, rfl⟩ := trodAll_nil r2
  obtain rfl : args = #[v0, v1, v2] := by cases args; simp_all
  obtain ⟨rfl, rfl⟩ := trodVars_none hV
  obtain ⟨s0, rfl, rfl, rfl, w0⟩ := open_string Try.underlying9 (hval 0 9 v0 rfl rfl) h0
  obtain ⟨a1, len1, cap1, rfl⟩ := okWide_slice Try.underlying22 (hval 1 22 v1 rfl rfl)
  have k1 := h1
  have lt1 : ∀ x ∈ p1, x.block < W.heap.size := by obtain ⟨m, hm⟩ := k1; exact DataW.trod_lt m _ _ _ hm
  obtain ⟨b1, f1, c1⟩ := came_open h1
  obtain ⟨a2, rfl, rfl, rfl, w2⟩ := open_int Try.underlying2 (hval 2 2 v2 rfl rfl) h2
  clear hA0 hval0
  refine (walk s0 a1 len1 cap1 f1 a2 W (by unfold maxLen at w0; exact w0) b1 c1).mono fun e W' ⟨he, bel⟩ => ?_
  subst he
  exact ⟨_, rfl, _, _, _, [], _, [], hW', trodAll_mk1 (shut_bool Try.underlying4 _), (trodAll_cons_mk (shut_string Try.underlying9 w0) (trodAll_cons_mk (Below.trod laidOut (by kernel_rfl) (of_decide_eq_true (by kernel_rfl)) k1 bel lt1) (trodAll_cons_mk (shut_int Try.underlying2 w2) trodAll_mk0))), rfl, bel.frame _, fun h => by cases h⟩

theorem over : Rows.fnIsAdminGlobalAdminDecidesRow.holds Try.pinned (OpenSpec.ofChange Rows.fnIsAdminGlobalAdminDecidesSpec) :=
  OpenClaim.holds_of_wide 4 Try.f4 rfl rfl rfl rfl rfl rfl rfl ⟨rfl, rfl, rfl, rfl, rfl⟩ rfl rfl rfl rfl rfl (by kernel_rfl) Try.func4 (by kernel_rfl)
    (of_decide_eq_true (by kernel_rfl)) (by unfold Func.isWrapper; first | (rw [if_pos (by decide +kernel)]; kernel_rfl) | (rw [if_neg (by decide +kernel)]; exact ⟨rfl, rfl⟩))
    (fun os started H enc _ => lifted os started H enc)

/-- THE STATEMENT -/
theorem proved : Rows.FnIsAdminGlobalAdminDecidesSaid := over
end Go.Proofs.Qxb6612901a.fnIsAdminGlobalAdminDecides
