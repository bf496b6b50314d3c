/-
  SEAT b6613060aD: what came in, and the walks of the bounds on lengths: zzBytes.., zzAdd, zzMembersBytes.
-/
import Derived.Test.Qxb6613060aDoorBase
namespace Go.Proofs.Qxb6613060aDoor
open Go.ChangeShapes Go.WideShapes Go.ChangeAt Go.RowKit
set_option linter.unusedVariables false

/-- n servers lie at offset 'off' of block b (memory that came in) -/
def Lies (w : World) (b off n : Nat) (f : Nat → Srv) : Prop :=
  ∀ i, i < n → w.cell? ⟨b, off + i * 4, none⟩ = some (.string (f i).id) ∧ w.cell? ⟨b, off + i * 4 + 1, none⟩ = some (.string (f i).addr) ∧ w.cell? ⟨b, off + i * 4 + 2, none⟩ = some (.string (f i).api) ∧ w.cell? ⟨b, off + i * 4 + 3, none⟩ = some (.bool (f i).non)

/-- no string is longer than Go's strings can be -/
def Fits (f : Nat → Srv) (n : Nat) : Prop := ∀ i, i < n → (f i).id.size ≤ 9223372036854775807 ∧ (f i).addr.size ≤ 9223372036854775807 ∧ (f i).api.size ≤ 9223372036854775807

/-- what came in: nil, or a slice over n servers -/
def CameS (w : World) (a : Option Addr) (n c : Nat) (f : Nat → Srv) : Prop :=
  (a = none ∧ n = 0 ∧ c = 0) ∨ (n = 0 ∧ ∃ a', a = some a') ∨ ∃ b off, a = some ⟨b, off, none⟩ ∧ b < w.heap.size ∧ Lies w b off n f

theorem CameS.pos {w : World} {a : Option Addr} {n c : Nat} {f : Nat → Srv} (h : CameS w a n c f) (hn : 0 < n) : ∃ b off, a = some ⟨b, off, none⟩ ∧ b < w.heap.size ∧ Lies w b off n f := by
  rcases h with ⟨_, h, _⟩ | ⟨h, _⟩ | h
  · omega
  · omega
  · exact h

/-- it answers a bool, and leaves the world as it was -/
def AnsB (w : World) (e : Ending) (w' : World) : Prop := (∃ b, e = .returned (.bool b)) ∧ w' = w

set_option maxHeartbeats 1000000 in
set_option maxRecDepth 100000 in
theorem bytes5 (a : Option Addr) (n c : Nat) (f : Nat → Srv) (w : World) (hn : n ≤ 9223372036854775807) (hf : Fits f n) (hc : CameS w a n c f) :
    Calls Tryd.prog 5 #[.slice a n c] w (AnsB w) := by
  go_enter Tryd.func5, Tryd.ntmps5
  rcases Nat.lt_or_ge 1048576 n with h1 | h1
  · go_wp2
    go_ret
    exact ⟨⟨_, rfl⟩, rfl⟩
  go_wp2
  go_loop [3, 4] (fun z i => ∃ k t : Nat, k ≤ n ∧ t ≤ 1048576 ∧ i = .int .i64 k ∧ z = .int .i64 t) (fun _ i => n - (intOf i).toNat)
  case atStart => exact ⟨0, n, by omega, by omega, rfl, rfl⟩
  case round =>
    obtain ⟨k, t, hk, ht, rfl, rfl⟩ := hrel
    by_cases hlt : k < n
    · obtain ⟨b, off, ha, hb, hl⟩ := hc.pos (by omega)
      subst ha
      obtain ⟨p0, p1, p2, p3⟩ := hl k hlt
      obtain ⟨f0, f1, f2⟩ := hf k hlt
      generalize f k = y at p0 p1 p2 p3 f0 f1 f2
      go_wp2
      all_goals first
        | (go_ret; exact ⟨⟨_, rfl⟩, rfl⟩)
        | skip
      go_round
      case rel => exact ⟨k + 1, t + y.id.size + y.addr.size + y.api.size, by omega, by omega, by go_num, by go_num⟩
      case measure => simp [intOf]; omega
    · go_wp2
      go_ret
      exact ⟨⟨_, rfl⟩, rfl⟩
set_option maxHeartbeats 1000000 in
set_option maxRecDepth 100000 in
theorem bytes14 (a : Option Addr) (n c : Nat) (q : Int) (f : Nat → Srv) (w : World) (hn : n ≤ 9223372036854775807) (hf : Fits f n) (hc : CameS w a n c f) :
    Calls Tryd.prog 14 #[.slice a n c, .int .i64 q] w (AnsB w) := by
  go_enter Tryd.func14, Tryd.ntmps14
  rcases Nat.lt_or_ge 1048576 n with h1 | h1
  · go_wp2
    go_ret
    exact ⟨⟨_, rfl⟩, rfl⟩
  go_wp2
  go_loop [5, 6] (fun z i => ∃ k t : Nat, k ≤ n ∧ t ≤ 1048576 ∧ i = .int .i64 k ∧ z = .int .i64 t) (fun _ i => n - (intOf i).toNat)
  case atStart => exact ⟨0, n, by omega, by omega, rfl, rfl⟩
  case round =>
    obtain ⟨k, t, hk, ht, rfl, rfl⟩ := hrel
    by_cases hlt : k < n
    · obtain ⟨b, off, ha, hb, hl⟩ := hc.pos (by omega)
      subst ha
      obtain ⟨p0, p1, p2, p3⟩ := hl k hlt
      obtain ⟨f0, f1, f2⟩ := hf k hlt
      generalize f k = y at p0 p1 p2 p3 f0 f1 f2
      go_wp2
      all_goals first
        | (go_ret; exact ⟨⟨_, rfl⟩, rfl⟩)
        | skip
      go_round
      case rel => exact ⟨k + 1, t + y.id.size + y.addr.size + y.api.size, by omega, by omega, by go_num, by go_num⟩
      case measure => simp [intOf]; omega
    · go_wp2
      go_ret
      exact ⟨⟨_, rfl⟩, rfl⟩

/-! ### zzAdd, zzMembersBytes -/
def addN (t n : Nat) : Nat := if 1048576 < t ∨ 1048576 < n then 1048577 else t + n

theorem add_any (t n : Nat) (w : World) (ht : t ≤ 9223372036854775807) (hn : n ≤ 9223372036854775807) :
    Calls Tryd.prog 17 #[.int .i64 t, .int .i64 n] w fun e w' => e = .returned (.int .i64 (addN t n : Int)) ∧ w' = w := by
  have hA : addN t n = if 1048576 < t ∨ 1048576 < n then 1048577 else t + n := rfl
  have HA : Hid (addN t n = if 1048576 < t ∨ 1048576 < n then 1048577 else t + n) := hA
  clear hA
  rcases Nat.lt_or_ge 1048576 t with h1 | h1
  · go_enter Tryd.func17, Tryd.ntmps17
    go_wp2
    go_ret
    refine ⟨?_, rfl⟩
    rw [HA.out, if_pos (Or.inl h1)]
    rfl
  rcases Nat.lt_or_ge 1048576 n with h2 | h2
  · go_enter Tryd.func17, Tryd.ntmps17
    go_wp2
    go_ret
    refine ⟨?_, rfl⟩
    rw [HA.out, if_pos (Or.inr h2)]
    rfl
  · go_enter Tryd.func17, Tryd.ntmps17
    go_wp2
    go_ret
    refine ⟨?_, rfl⟩
    rw [HA.out, if_neg (by omega)]
    rfl

/-- the bytes of the first n servers' strings -/
def tot (f : Nat → Srv) : Nat → Nat
  | 0 => 0
  | n + 1 => tot f n + ((f n).id.size + (f n).addr.size + (f n).api.size)

theorem addN_le (t n : Nat) : addN t n ≤ 2097153 := by
  unfold addN
  by_cases h : 1048576 < t ∨ 1048576 < n
  · rw [if_pos h]; omega
  · rw [if_neg h]; omega

theorem addN_small {t n : Nat} (h : addN t n ≤ 1048576) : t ≤ 1048576 ∧ n ≤ 1048576 ∧ addN t n = t + n := by
  unfold addN at h ⊢
  by_cases k : 1048576 < t ∨ 1048576 < n
  · rw [if_pos k] at h; omega
  · rw [if_neg k]; omega

/-- what zzMembersBytes answers -/
def AnsT (f : Nat → Srv) (n : Nat) (w : World) (e : Ending) (w' : World) : Prop := (∃ t : Nat, e = .returned (.int .i64 (t : Int)) ∧ t ≤ 2097153 ∧ (t ≤ 1048576 → 56 * n + tot f n ≤ 1048576)) ∧ w' = w

set_option maxHeartbeats 1000000 in
set_option maxRecDepth 100000 in
theorem sizes_any (a : Option Addr) (n c : Nat) (f : Nat → Srv) (w : World) (hn : n ≤ 9223372036854775807) (hf : Fits f n) (hc : CameS w a n c f) :
    Calls Tryd.prog 6 #[.int .i64 0, .slice a n c] w (AnsT f n w) := by
  rcases Nat.lt_or_ge 65536 n with h1 | h1
  · go_enter Tryd.func6, Tryd.ntmps6
    go_wp2
    go_ret
    exact ⟨⟨1048577, rfl, by omega, fun h => by omega⟩, rfl⟩
  obtain ⟨d, hd⟩ : ∃ d, d = 56 * n := ⟨_, rfl⟩
  have ed : 56 * (n : Int) = (d : Int) := by omega
  have HD : Hid (d = 56 * n) := hd
  have ld : d ≤ 3670016 := by omega
  clear hd
  go_enter Tryd.func6, Tryd.ntmps6
  go_wp2_with (go_at_call 17; refine (add_any 0 d _ (by omega) (by omega)).mono ?_; rintro e w' ⟨rfl, rfl⟩)
  go_loop [0, 5] (fun z i => ∃ k t : Nat, k ≤ n ∧ t ≤ 2097153 ∧ i = .int .i64 k ∧ z = .int .i64 t ∧ Hid (t ≤ 1048576 → t = 56 * n + tot f k)) (fun _ i => n - (intOf i).toNat)
  case atStart => exact ⟨0, addN 0 d, by omega, addN_le _ _, rfl, rfl, fun h => by have := addN_small h; have := HD.out; simp [tot]; omega⟩
  case round =>
    obtain ⟨k, t, hk, ht, rfl, rfl, HT⟩ := hrel
    by_cases hlt : k < n
    · by_cases h2 : t ≤ 1048576
      · obtain ⟨b, off, ha, hb, hl⟩ := hc.pos (by omega)
        subst ha
        obtain ⟨p0, p1, p2, p3⟩ := hl k hlt
        obtain ⟨f0, f1, f2⟩ := hf k hlt
        generalize hy : f k = y at p0 p1 p2 p3 f0 f1 f2
        have HY : Hid (f k = y) := hy
        clear hy
        have l1 := addN_le t y.id.size
        have l2 := addN_le (addN t y.id.size) y.addr.size
        have l3 := addN_le (addN (addN t y.id.size) y.addr.size) y.api.size
        go_wp2_with fail
        refine (add_any t y.id.size _ (by omega) f0).mono ?_
        rintro e w1 ⟨rfl, rfl⟩
        go_wp2_with fail
        refine (add_any (addN t y.id.size) y.addr.size _ (by omega) f1).mono ?_
        rintro e w1 ⟨rfl, rfl⟩
        go_wp2_with fail
        refine (add_any (addN (addN t y.id.size) y.addr.size) y.api.size _ (by omega) f2).mono ?_
        rintro e w1 ⟨rfl, rfl⟩
        go_wp2
        go_round
        case rel =>
          refine ⟨k + 1, addN (addN (addN t y.id.size) y.addr.size) y.api.size, by omega, l3, by go_num, rfl, fun h => ?_⟩
          have s3 := addN_small h
          have s2 := addN_small s3.1
          have s1 := addN_small s2.1
          have h0 := HT.out s1.1
          unfold tot
          rw [HY.out]
          omega
        case measure => simp [intOf]; omega
      · go_wp2
        go_ret
        exact ⟨⟨t, rfl, ht, fun h => by omega⟩, rfl⟩
    · have e1 : k = n := by omega
      subst e1
      by_cases h2 : t ≤ 1048576
      all_goals
        go_wp2
        go_ret
        exact ⟨⟨t, rfl, ht, fun h => by have := HT.out h; omega⟩, rfl⟩
end Go.Proofs.Qxb6613060aDoor
