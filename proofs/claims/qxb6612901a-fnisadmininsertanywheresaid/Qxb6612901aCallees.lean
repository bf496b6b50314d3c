/-
  SEAT b6612901a: the contracts of isAdmin, IsAdmin, zzHeldB1 and of the four bounds on lengths.
-/
import Derived.Test.Qxb6612901aBase
namespace Go.Proofs.Qxb6612901a
open Go.ChangeShapes Go.WideShapes Go.ChangeAt Go.RowKit

theorem anyG_hit (f : Nat → Asg) (k n : Nat) (h : k < n) (hg : (f k).glob = true) : anyG f n = true := by
  induction n with
  | zero => omega
  | succ n ih =>
    unfold anyG
    by_cases e : k = n
    · subst e; rw [hg, Bool.or_true]
    · rw [ih (by omega), Bool.true_or]

theorem anyG_miss (f : Nat → Asg) (k : Nat) (h : anyG f k = false) (hg : (f k).glob = false) : anyG f (k + 1) = false := by
  unfold anyG; rw [h, hg, Bool.or_false]

theorem glob_yes (x : Asg) (h1 : x.adm = true) (h2 : (x.p == 0) = true) : x.glob = true := by unfold Asg.glob; rw [h1, h2]; rfl
theorem glob_no1 (x : Asg) (h1 : ¬ x.adm = true) : x.glob = false := by unfold Asg.glob; simp at h1; rw [h1]; rfl
theorem glob_no2 (x : Asg) (h2 : (x.p == 0) = false) : x.glob = false := by unfold Asg.glob; rw [h2, Bool.and_false]

set_option maxHeartbeats 400000 in
theorem isAdmin_own (g n c : Nat) (f : Nat → Asg) (w : World) (hn : n ≤ 1048577) (ho : Own w g n f) :
    Calls Try.prog 16 #[.slice (some ⟨g, 0, none⟩) n c] w fun e w' => e = .returned (.bool (anyG f n)) ∧ Below w.heap.size w w' := by
  have hg := ho.lt
  go_enter Try.func16, Try.ntmps16
  go_wp2
  go_loopw [4, 7] (fun _ i wr => ∃ k : Nat, k ≤ n ∧ i = .int .i64 k ∧ anyG f k = false ∧ Below w.heap.size w wr) (fun _ i _ => n - (intOf i).toNat)
  case atStart => exact ⟨0, Nat.zero_le _, rfl, rfl, Below.refl _ _⟩
  case round =>
    obtain ⟨k, hk, rfl, hany, hbel⟩ := hrel
    by_cases hlt : k < n
    · obtain ⟨q0, q1, q2⟩ := (ho.below hbel hg).cells hlt
      go_wp2
      · have h1 : (f k).adm = true := by assumption
        have h2 : ((f k).p == 0) = true := by assumption
        go_ret
        exact ⟨ret_bool (anyG_hit f k n hlt (glob_yes _ h1 h2)).symm, hbel.alloc hbel.size _⟩
      · have h2 : ((f k).p == 0) = false := by assumption
        go_roundw
        case rel => exact ⟨k + 1, by omega, by go_num, anyG_miss f k hany (glob_no2 _ h2), hbel.alloc hbel.size _⟩
        case measure => simp [intOf]; omega
      · have h1 : ¬ (f k).adm = true := by assumption
        go_roundw
        case rel => exact ⟨k + 1, by omega, by go_num, anyG_miss f k hany (glob_no1 _ h1), hbel.alloc hbel.size _⟩
        case measure => simp [intOf]; omega
    · have e : k = n := by omega
      subst e
      have H : Hid (anyG f k = false) := hany
      clear hany
      go_wp2
      go_ret
      exact ⟨ret_bool H.out.symm, hbel⟩

theorem isAdmin_nil (f : Nat → Asg) (w : World) :
    Calls Try.prog 16 #[.slice none 0 0] w fun e w' => e = .returned (.bool (anyG f 0)) ∧ Below w.heap.size w w' := by
  go_enter Try.func16, Try.ntmps16
  go_wp2
  refine wp_loop_rounds 1 ?_
  rw [rounds_succ]
  go_wp2
  go_ret
  exact ⟨rfl, Below.refl _ _⟩

/-- A slice value over n assignments: nil, or at the head of a row of the call's own, from block B on. -/
def OwnS (B : Nat) (w : World) (v : Value) (n : Nat) (f : Nat → Asg) : Prop :=
  (v = .slice none 0 0 ∧ n = 0) ∨ ∃ g, v = .slice (some ⟨g, 0, none⟩) n n ∧ B ≤ g ∧ Own w g n f

theorem OwnS.shape {B : Nat} {w : World} {v : Value} {n : Nat} {f : Nat → Asg} (h : OwnS B w v n f) : ∃ a, v = .slice a n n := by
  rcases h with ⟨rfl, rfl⟩ | ⟨g, rfl, _, _⟩
  · exact ⟨_, rfl⟩
  · exact ⟨_, rfl⟩

theorem OwnS.below {B B' : Nat} {w w' : World} {v : Value} {n : Nat} {f : Nat → Asg} (h : OwnS B w v n f) (hb : Below B' w w') (hB : w.heap.size ≤ B') : OwnS B w' v n f := by
  rcases h with h | ⟨g, rfl, hg, ho⟩
  · exact Or.inl h
  · exact Or.inr ⟨g, rfl, hg, ho.below hb (Nat.lt_of_lt_of_le ho.lt hB)⟩

theorem isAdmin_any (B : Nat) (v : Value) (n : Nat) (f : Nat → Asg) (w : World) (hn : n ≤ 1048577) (ho : OwnS B w v n f) :
    Calls Try.prog 16 #[v] w fun e w' => e = .returned (.bool (anyG f n)) ∧ Below w.heap.size w w' := by
  rcases ho with ⟨rfl, rfl⟩ | ⟨g, rfl, _, ho⟩
  · exact isAdmin_nil f w
  · exact isAdmin_own g n n f w hn ho

/-- '(*HolderFacts).IsAdmin' -/
theorem admin_any (b B : Nat) (s : ByteArray) (a : Option Addr) (n : Nat) (f : Nat → Asg) (w : World) (hn : n ≤ 1048577) (h0 : w.cell? ⟨b, 0, none⟩ = some (.string s)) (h1 : w.cell? ⟨b, 1, none⟩ = some (.slice a n n)) (ho : OwnS B w (.slice a n n) n f) :
    Calls Try.prog 11 #[.pointer (some ⟨b, 0, none⟩)] w fun e w' => e = .returned (.bool (act s && anyG f n)) ∧ Below w.heap.size w w' := by
  obtain ⟨ac, ha⟩ : ∃ ac, ac = act s := ⟨_, rfl⟩
  rw [← ha]
  unfold act at ha
  cases ac
  all_goals
    have ha' := ha.symm
    clear ha
    go_enter Try.func11, Try.ntmps11
    go_wp2_with (go_at_call 16; refine (isAdmin_any B _ n f _ hn ho).mono ?_; rintro e w' ⟨rfl, hbel⟩)
    go_ret
    first
      | exact ⟨ret_bool (by simp), Below.refl _ _⟩
      | exact ⟨ret_bool (by simp), hbel⟩

/-! ### zzHeldB1 -/
/-- n assignments lie at offset 'off' of block b (memory that came in). -/
def Lies (w : World) (b off n : Nat) (f : Nat → Asg) : Prop :=
  ∀ i, i < n → w.cell? ⟨b, off + i * 3, none⟩ = some (.int .i64 (f i).r) ∧ w.cell? ⟨b, off + i * 3 + 1, none⟩ = some (.bool (f i).adm) ∧ w.cell? ⟨b, off + i * 3 + 2, none⟩ = some (.int .i64 (f i).p)

/-- what a store into element i wants to know of the row -/
theorem Own.room {w : World} {g n : Nat} {f : Nat → Asg} (h : Own w g n f) {i : Nat} (hi : i < n) :
    ∃ v0 v1 v2, w.cell? ⟨g, i * 3, none⟩ = some v0 ∧ w.cell? ⟨g, i * 3 + 1, none⟩ = some v1 ∧ w.cell? ⟨g, i * 3 + 2, none⟩ = some v2 ∧
      w.frozen? ⟨g, i * 3, none⟩ = false ∧ w.frozen? ⟨g, i * 3 + 1, none⟩ = false ∧ w.frozen? ⟨g, i * 3 + 2, none⟩ = false :=
  ⟨_, _, _, (h.cells hi).1, (h.cells hi).2.1, (h.cells hi).2.2, h.frozen _, h.frozen _, h.frozen _⟩

theorem below_set3 {B : Nat} {w w' : World} (h : Below B w w') {g i : Nat} (hg : B ≤ g) (u0 u1 u2 : Value) :
    Below B w (((w'.setCell ⟨g, i, none⟩ u0).setCell ⟨g, i + 1, none⟩ u1).setCell ⟨g, i + 2, none⟩ u2) :=
  ((h.setCell (p := ⟨g, i, none⟩) hg u0).setCell (p := ⟨g, i + 1, none⟩) hg u1).setCell (p := ⟨g, i + 2, none⟩) hg u2

/-- the first k of f, then nothing -/
def fill (f : Nat → Asg) (k : Nat) : Nat → Asg := fun j => if j < k then f j else Asg.zero

theorem fill_next {w : World} {g n : Nat} {f : Nat → Asg} {k : Nat} {x : Asg} (hx : x = f k) (h : Own w g n (upd (fill f k) k x)) : Own w g n (fill f (k + 1)) := by
  refine h.congr fun i _ => ?_
  unfold upd fill
  by_cases e : i = k
  · rw [if_pos e, if_pos (by omega), e, hx]
  · rw [if_neg e]
    by_cases l : i < k
    · rw [if_pos l, if_pos (by omega)]
    · rw [if_neg l, if_neg (by omega)]

theorem fill_done {w : World} {g n : Nat} {f : Nat → Asg} {k : Nat} (hk : n ≤ k) (h : Own w g n (fill f k)) : Own w g n f :=
  h.congr fun i hi => by unfold fill; rw [if_pos (by omega)]

theorem fill_none {w : World} {g n : Nat} (f : Nat → Asg) (h : Own w g n (fun _ => Asg.zero)) : Own w g n (fill f 0) :=
  h.congr fun i hi => by unfold fill; rw [if_neg (by omega)]

set_option maxHeartbeats 400000 in
theorem held_own (b off n c : Nat) (f : Nat → Asg) (w : World) (hn : n ≤ 1048576) (hb : b < w.heap.size) (hl : Lies w b off n f) :
    Calls Try.prog 8 #[.slice (some ⟨b, off, none⟩) n c] w fun e w' => e = .returned (.slice (some ⟨w.heap.size, 0, none⟩) n n) ∧ Own w' w.heap.size n f ∧ Below w.heap.size w w' := by
  have hmk := run_make3 n (by omega)
  have hnil := fun (wx : World) => @Lib.run_eql_slice_nil Try.prog wx 22 24 (some ⟨b, off, none⟩) n c 0 0 Try.underlying22
  go_enter Try.func8, Try.ntmps8
  go_wp2
  go_loopw [4] (fun i wr => ∃ k : Nat, k ≤ n ∧ i = .int .i64 k ∧ Own wr w.heap.size n (fill f k) ∧ Below w.heap.size w wr) (fun i _ => n - (intOf i).toNat)
  case atStart => exact ⟨0, Nat.zero_le _, rfl, fill_none f (made3 w n), (Below.refl _ _).alloc (Nat.le_refl _) _⟩
  case round =>
    obtain ⟨k, hk, rfl, ho, hbel⟩ := hrel
    by_cases hlt : k < n
    · have hl' : Lies wr b off n f := fun i hi => by
        obtain ⟨q0, q1, q2⟩ := hl i hi
        exact ⟨(hbel.cell (p := ⟨b, off + i * 3, none⟩) hb).trans q0, (hbel.cell (p := ⟨b, off + i * 3 + 1, none⟩) hb).trans q1, (hbel.cell (p := ⟨b, off + i * 3 + 2, none⟩) hb).trans q2⟩
      obtain ⟨q0, q1, q2⟩ := hl' k hlt
      go_wp2_with fail
      refine (one_any (f k) _).mono ?_
      rintro e w1 ⟨rfl, hb1⟩
      have ho1 := ho.below hb1 ho.lt
      obtain ⟨v0, v1, v2, p0, p1, p2, z0, z1, z2⟩ := ho1.room hlt
      have hs1 := hb1.size
      have hs2 := ho.lt
      clear q0 q1 q2 hl'
      go_wp2
      go_roundw
      case rel => exact ⟨k + 1, by omega, by go_num, fill_next rfl (ho1.set k (f k)), below_set3 (hbel.trans (hb1.mono hbel.size)) (Nat.le_refl _) _ _ _⟩
      case measure => simp [intOf]; omega
    · go_wp2
      go_ret
      exact ⟨rfl, fill_done (by omega) ho, hbel⟩

theorem held_empty (a : Addr) (c : Nat) (f : Nat → Asg) (w : World) :
    Calls Try.prog 8 #[.slice (some a) 0 c] w fun e w' => e = .returned (.slice (some ⟨w.heap.size, 0, none⟩) 0 0) ∧ Own w' w.heap.size 0 f ∧ Below w.heap.size w w' := by
  have hmk := run_make3 0 (by omega)
  have hnil := fun (wx : World) => @Lib.run_eql_slice_nil Try.prog wx 22 24 (some a) 0 c 0 0 Try.underlying22
  simp only [Nat.zero_mul, Int.natCast_zero] at hmk
  go_enter Try.func8, Try.ntmps8
  go_wp2
  refine wp_loop_rounds 1 ?_
  rw [rounds_succ]
  go_wp2
  go_ret
  exact ⟨rfl, (made3 w 0).congr fun i hi => by omega, (Below.refl _ _).alloc (Nat.le_refl _) _⟩

theorem held_nil (w : World) :
    Calls Try.prog 8 #[.slice none 0 0] w fun e w' => e = .returned (.slice none 0 0) ∧ w' = w := by
  have hnil := fun (wx : World) => @Lib.run_eql_slice_nil Try.prog wx 22 24 none 0 0 0 0 Try.underlying22
  go_enter Try.func8, Try.ntmps8
  go_wp2
  go_ret
  exact ⟨rfl, rfl⟩

/-- what came in: nil, or a slice over n assignments -/
def Came (w : World) (a : Option Addr) (n c : Nat) (f : Nat → Asg) : Prop :=
  (a = none ∧ n = 0 ∧ c = 0) ∨ (n = 0 ∧ ∃ a', a = some a') ∨ ∃ b off, a = some ⟨b, off, none⟩ ∧ b < w.heap.size ∧ Lies w b off n f

theorem held_any (a : Option Addr) (n c : Nat) (f : Nat → Asg) (w : World) (hn : n ≤ 1048576) (hc : Came w a n c f) :
    Calls Try.prog 8 #[.slice a n c] w fun e w' => ∃ a', e = .returned (.slice a' n n) ∧ OwnS w.heap.size w' (.slice a' n n) n f ∧ Below w.heap.size w w' := by
  rcases hc with ⟨rfl, rfl, rfl⟩ | ⟨rfl, a', rfl⟩ | ⟨b, off, rfl, hb, hl⟩
  · refine (held_nil w).mono ?_
    rintro e w' ⟨rfl, rfl⟩
    exact ⟨none, rfl, Or.inl ⟨rfl, rfl⟩, Below.refl _ _⟩
  · refine (held_empty a' c f w).mono ?_
    rintro e w' ⟨rfl, ho, hb⟩
    exact ⟨_, rfl, Or.inr ⟨_, rfl, Nat.le_refl _, ho⟩, hb⟩
  · refine (held_own b off n c f w hn hb hl).mono ?_
    rintro e w' ⟨rfl, ho, hb⟩
    exact ⟨_, rfl, Or.inr ⟨_, rfl, Nat.le_refl _, ho⟩, hb⟩

/-! ### The bounds on lengths -/
theorem bytes7 (s : ByteArray) (a : Option Addr) (n c : Nat) (x : Asg) (t : Int) (w : World) (hs : s.size ≤ 9223372036854775807) (hn : n ≤ 9223372036854775807) :
    Calls Try.prog 7 #[.string s, .slice a n c, .agg #[.int .i64 x.r, .bool x.adm, .int .i64 x.p], .int .i64 t] w fun e w' => ∃ b, e = .returned (.bool b) ∧ (b = true → s.size ≤ 1048576 ∧ n ≤ 1048576) ∧ Below w.heap.size w w' := by
  go_enter Try.func7, Try.ntmps7
  go_wp2
  all_goals
    go_ret
    exact ⟨_, rfl, fun h => by first | omega | (cases h), (Below.refl _ _).alloc (Nat.le_refl _) _⟩
theorem bytes13 (s : ByteArray) (a : Option Addr) (n c : Nat) (x : Asg) (t : Int) (w : World) (hs : s.size ≤ 9223372036854775807) (hn : n ≤ 9223372036854775807) :
    Calls Try.prog 13 #[.string s, .slice a n c, .agg #[.int .i64 x.r, .bool x.adm, .int .i64 x.p], .int .i64 t] w fun e w' => ∃ b, e = .returned (.bool b) ∧ (b = true → s.size ≤ 1048576 ∧ n ≤ 1048576) ∧ Below w.heap.size w w' := by
  go_enter Try.func13, Try.ntmps13
  go_wp2
  all_goals
    go_ret
    exact ⟨_, rfl, fun h => by first | omega | (cases h), (Below.refl _ _).alloc (Nat.le_refl _) _⟩
theorem bytes15 (s : ByteArray) (a : Option Addr) (n c : Nat) (x : Asg) (t : Int) (w : World) (hs : s.size ≤ 9223372036854775807) (hn : n ≤ 9223372036854775807) :
    Calls Try.prog 15 #[.string s, .slice a n c, .agg #[.int .i64 x.r, .bool x.adm, .int .i64 x.p], .int .i64 t] w fun e w' => ∃ b, e = .returned (.bool b) ∧ (b = true → s.size ≤ 1048576 ∧ n ≤ 1048576) ∧ Below w.heap.size w w' := by
  go_enter Try.func15, Try.ntmps15
  go_wp2
  all_goals
    go_ret
    exact ⟨_, rfl, fun h => by first | omega | (cases h), (Below.refl _ _).alloc (Nat.le_refl _) _⟩
theorem bytes12 (s : ByteArray) (a : Option Addr) (n c : Nat) (t : Int) (w : World) (hs : s.size ≤ 9223372036854775807) (hn : n ≤ 9223372036854775807) :
    Calls Try.prog 12 #[.string s, .slice a n c, .int .i64 t] w fun e w' => ∃ b, e = .returned (.bool b) ∧ (b = true → s.size ≤ 1048576 ∧ n ≤ 1048576) ∧ Below w.heap.size w w' := by
  go_enter Try.func12, Try.ntmps12
  go_wp2
  all_goals
    go_ret
    exact ⟨_, rfl, fun h => by first | omega | (cases h), Below.refl _ _⟩
end Go.Proofs.Qxb6612901a
