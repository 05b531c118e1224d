/-
  Walks: sorted, member, the session number, the counter's small methods.
-/
import Derived.Test.Qxb6615671aFmtWalks1
namespace Go.Proofs.Qxb6615671aFmt
open Go.RowKit

theorem hide {p : Prop} (h : p) : Hid p := h

/-- What the test for order says: some bool; where it says yes, the row is strictly sorted. -/
def SortedPost (n : Nat) (S : Nat → ByteArray) (w : World) (e : Ending) (w' : World) : Prop :=
  ∃ (r : Bool) (q : Nat), e = .returned (.bool r) ∧ w' = w.drewN q ∧ (r = true → Pl.Sorted n S)
theorem sortedPost_no {n : Nat} {S : Nat → ByteArray} {w w' : World} {v : Value} (q : Nat) (h : v = .bool false) (hw : w' = w.drewN q) : SortedPost n S w (.returned v) w' := ⟨false, q, by rw [h], hw, fun h => by cases h⟩
theorem sortedPost_yes {n : Nat} {S : Nat → ByteArray} {w w' : World} {v : Value} (q : Nat) (h : v = .bool true) (hw : w' = w.drewN q) (hs : Pl.Sorted n S) : SortedPost n S w (.returned v) w' := ⟨true, q, by rw [h], hw, fun _ => hs⟩

set_option maxHeartbeats 1000000 in
theorem sorted_any (a : Option Addr) (n cap : Nat) (S : Nat → ByteArray) (w : World) (hn : n ≤ maxLen) (hR : Row w a n S) :
    Calls Tryf.prog 7 #[.slice a n cap] w (SortedPost n S w) := by
  unfold maxLen at hn
  go_enter Tryf.func7, Tryf.ntmps7
  go_wp2
  go_loopw [3] (fun i wr => ∃ k q : Nat, k ≤ n ∧ i = .int .i64 ((k : Int) + 1) ∧ wr = w.drewN q ∧ Hid (∀ j, j < k → j + 1 < n → Op.bytesLess (S j).toList (S (j + 1)).toList = true)) (fun i _ => n + 1 - (intOf i).toNat)
  case atStart => exact ⟨0, 0, by omega, rfl, rfl, fun j h => by omega⟩
  case round =>
    obtain ⟨k, q, hk, rfl, rfl, HS⟩ := hrel
    by_cases hlt : k + 1 < n
    · obtain ⟨b, off, rfl, hck, hzk⟩ := hR (k + 1) hlt
      obtain ⟨b', off', e', hck', hzk'⟩ := hR k (by omega)
      cases e'
      have hS1 : ∀ (h : Op.bytesLess (S k).toList (S (k + 1)).toList = true), Hid (∀ j, j < k + 1 → j + 1 < n → Op.bytesLess (S j).toList (S (j + 1)).toList = true) := fun h j hj hjn => by
        rcases Nat.lt_or_ge j k with h1 | h1
        · exact HS.out j h1 hjn
        · rw [show j = k by omega]; exact h
      have HS1 := hide hS1
      clear hR hzk hzk' hS1 HS
      generalize S k = s0 at hck' HS1
      generalize S (k + 1) = s1 at hck HS1
      cases hb : Op.bytesLess s0.toList s1.toList
      · clear HS1
        go_wp2
        go_quiet (fail)
        go_wp2
        go_ret
        exact sortedPost_no (q + nq) rfl (World.drewN_drewN _ _ _)
      · have HS2 := hide (HS1.out hb)
        clear HS1
        go_wp2
        go_quiet (fail)
        go_wp2
        go_roundw
        case rel => exact ⟨k + 1, q + nq, by omega, by go_num, rfl, HS2⟩
        case measure => simp [intOf]; omega
    · clear hR
      go_wp2
      go_ret
      exact sortedPost_yes _ rfl rfl (fun j hj => HS.out j (by omega) hj)

set_option maxHeartbeats 400000 in
theorem locked_any (c : Int) (w : World) : Calls Tryf.prog 15 #[.int .i64 c] w fun e w' => e = .returned (.bool (decide (c < 0))) ∧ w' = w := by
  go_enter Tryf.func15, Tryf.ntmps15
  go_wp2
  go_ret
  exact ⟨rfl, rfl⟩

theorem locked_neg (c : Int) (w : World) (h : c < 0) : Calls Tryf.prog 15 #[.int .i64 c] w fun e w' => e = .returned (.bool true) ∧ w' = w := by
  have := locked_any c w; rwa [decide_eq_true h] at this
theorem locked_pos (c : Int) (w : World) (h : 0 ≤ c) : Calls Tryf.prog 15 #[.int .i64 c] w fun e w' => e = .returned (.bool false) ∧ w' = w := by
  have := locked_any c w; rwa [decide_eq_false (by omega)] at this

set_option maxHeartbeats 400000 in
theorem unlock_pos (c : Int) (w : World) (h : 0 ≤ c) : Calls Tryf.prog 23 #[.int .i64 c] w fun e w' => e = .returned (.int .i64 c) ∧ w' = w := by
  go_enter Tryf.func23, Tryf.ntmps23
  go_wp2
  go_ret
  exact ⟨rfl, rfl⟩

/-- Some int64; the world stands. -/
def SomeInt (w : World) (e : Ending) (w' : World) : Prop := ∃ r : Int, e = .returned (.int .i64 r) ∧ w' = w
theorem someInt {w : World} {v : Value} {r : Int} (h : v = .int .i64 r) : SomeInt w (.returned v) w := ⟨r, by rw [h], rfl⟩

set_option maxHeartbeats 400000 in
theorem unlock_neg (c : Int) (w : World) (h : c < 0) : Calls Tryf.prog 23 #[.int .i64 c] w (SomeInt w) := by
  have hsg : IntKind.i64.signed = true := rfl
  go_enter Tryf.func23, Tryf.ntmps23
  go_wp2
  go_ret
  exact someInt rfl

set_option maxHeartbeats 400000 in
theorem issued_pos (c : Int) (w : World) (h : 0 ≤ c) : Calls Tryf.prog 19 #[.int .i64 c] w fun e w' => e = .returned (.int .i64 c) ∧ w' = w := by
  go_enter Tryf.func19, Tryf.ntmps19
  go_wp2_with (go_at_call 23; refine (unlock_pos _ _ h).mono ?_; rintro e w' ⟨rfl, rfl⟩)
  go_ret
  exact ⟨rfl, rfl⟩

set_option maxHeartbeats 400000 in
theorem issued_neg (c : Int) (w : World) (h : c < 0) : Calls Tryf.prog 19 #[.int .i64 c] w (SomeInt w) := by
  go_enter Tryf.func19, Tryf.ntmps19
  go_wp2_with (go_at_call 23; refine (unlock_neg _ _ h).mono ?_; rintro e w' ⟨r, rfl, rfl⟩)
  go_ret
  exact someInt rfl

/-- The window's test. -/
def liveB (c n m : Int) : Bool := decide (0 ≤ c ∧ 0 ≤ n ∧ n < c ∧ c - n ≤ m)
theorem liveB_neg {c n m : Int} (h : c < 0) : liveB c n m = false := by simp [liveB]; omega

set_option maxHeartbeats 1000000 in
theorem live_any (c n m : Int) (w : World) (hc : -9223372036854775808 ≤ c) (hc2 : c ≤ 9223372036854775807) (hn : -9223372036854775808 ≤ n) (hn2 : n ≤ 9223372036854775807) (hm : -9223372036854775808 ≤ m) (hm2 : m ≤ 9223372036854775807) :
    Calls Tryf.prog 12 #[.int .i64 c, .int .i64 n, .int .i64 m] w fun e w' => e = .returned (.bool (liveB c n m)) ∧ w' = w := by
  by_cases h0 : c < 0
  · rw [liveB_neg h0]
    go_enter Tryf.func12, Tryf.ntmps12
    go_wp2_with (first | (go_at_call 19; refine (issued_neg _ _ h0).mono ?_; rintro e w' ⟨r, rfl, rfl⟩) | (go_at_call 15; refine (locked_neg _ _ h0).mono ?_; rintro e w' ⟨rfl, rfl⟩))
    all_goals (go_ret; exact ⟨rfl, rfl⟩)
  · have h0' : 0 ≤ c := by omega
    by_cases h1 : 0 ≤ n
    · by_cases h2 : n < c
      · by_cases h3 : c - n ≤ m
        · have e1 : liveB c n m = true := by simp [liveB]; omega
          rw [e1]
          go_enter Tryf.func12, Tryf.ntmps12
          go_wp2_with (first | (go_at_call 19; refine (issued_pos _ _ h0').mono ?_; rintro e w' ⟨rfl, rfl⟩) | (go_at_call 15; refine (locked_pos _ _ h0').mono ?_; rintro e w' ⟨rfl, rfl⟩))
          all_goals (go_ret; exact ⟨rfl, rfl⟩)
        · have e1 : liveB c n m = false := by simp [liveB]; omega
          have e2 : decide (c - n ≤ m) = false := by simpa using h3
          rw [e1]
          go_enter Tryf.func12, Tryf.ntmps12
          go_wp2_with (first | (go_at_call 19; refine (issued_pos _ _ h0').mono ?_; rintro e w' ⟨rfl, rfl⟩) | (go_at_call 15; refine (locked_pos _ _ h0').mono ?_; rintro e w' ⟨rfl, rfl⟩))
          all_goals (go_ret; exact ⟨rfl, rfl⟩)
      · have e1 : liveB c n m = false := by simp [liveB]; omega
        rw [e1]
        go_enter Tryf.func12, Tryf.ntmps12
        go_wp2_with (first | (go_at_call 19; refine (issued_pos _ _ h0').mono ?_; rintro e w' ⟨rfl, rfl⟩) | (go_at_call 15; refine (locked_pos _ _ h0').mono ?_; rintro e w' ⟨rfl, rfl⟩))
        all_goals (go_ret; exact ⟨rfl, rfl⟩)
    · have e1 : liveB c n m = false := by simp [liveB]; omega
      rw [e1]
      go_enter Tryf.func12, Tryf.ntmps12
      go_wp2_with (first | (go_at_call 19; refine (issued_pos _ _ h0').mono ?_; rintro e w' ⟨rfl, rfl⟩) | (go_at_call 15; refine (locked_pos _ _ h0').mono ?_; rintro e w' ⟨rfl, rfl⟩))
      all_goals (go_ret; exact ⟨rfl, rfl⟩)
end Go.Proofs.Qxb6615671aFmt
