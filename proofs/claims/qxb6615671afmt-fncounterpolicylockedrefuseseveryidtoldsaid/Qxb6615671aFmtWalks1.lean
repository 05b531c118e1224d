/-
  Walks: the guards of the two laws.
-/
import Derived.Test.Qxb6615671aFmtProg
import Derived.Test.Qxb6615671aFmtPlain
import Derived.WalkKit
import Derived.WalkSpells
import Derived.WalkLawsBesides
import Derived.BigCall
import Derived.BigQuiet
import Derived.Deep.QuietTactic
import Derived.Deep.DeepFit
import Derived.Handy
namespace Go.Proofs.Qxb6615671aFmt
open Go.RowKit

/-- A row of strings in memory, behind a slice's address. -/
def Row (w : World) (a : Option Addr) (n : Nat) (S : Nat → ByteArray) : Prop :=
  ∀ j, j < n → ∃ b off, a = some ⟨b, off, none⟩ ∧ w.cell? ⟨b, off + j, none⟩ = some (.string (S j)) ∧ (S j).size ≤ maxLen

theorem Row.split {w : World} {a : Option Addr} {n : Nat} {S : Nat → ByteArray} (h : Row w a n S) :
    n = 0 ∨ ∃ b off, a = some ⟨b, off, none⟩ ∧ (∀ j, j < n → w.cell? ⟨b, off + j, none⟩ = some (.string (S j))) ∧ ∀ j, j < n → (S j).size ≤ maxLen := by
  rcases Nat.eq_zero_or_pos n with h0 | h0
  · exact Or.inl h0
  · obtain ⟨b, off, rfl, _, _⟩ := h 0 h0
    refine Or.inr ⟨b, off, rfl, fun j hj => ?_, fun j hj => ?_⟩
    · obtain ⟨b', off', e, hc, _⟩ := h j hj
      cases e
      exact hc
    · obtain ⟨_, _, _, _, hs⟩ := h j hj
      exact hs

set_option maxHeartbeats 400000 in
theorem add_any (t n : Int) (w : World) (ht : 0 ≤ t) (hn : 0 ≤ n) (ht2 : t ≤ 9223372036854775807) (hn2 : n ≤ 9223372036854775807) :
    Calls Tryf.prog 17 #[.int .i64 t, .int .i64 n] w fun e w' => ∃ r : Int, e = .returned (.int .i64 r) ∧ 0 ≤ r ∧ r ≤ 2097152 ∧ w' = w := by
  by_cases h1 : 1048576 < n
  · go_enter Tryf.func17, Tryf.ntmps17
    go_wp2
    go_ret
    exact ⟨_, rfl, by omega, by omega, rfl⟩
  · by_cases h2 : 1048576 < t
    · go_enter Tryf.func17, Tryf.ntmps17
      go_wp2
      go_ret
      exact ⟨_, rfl, by omega, by omega, rfl⟩
    · go_enter Tryf.func17, Tryf.ntmps17
      go_wp2
      go_ret
      exact ⟨_, rfl, by omega, by omega, rfl⟩


/-- What the bound on lengths says: some bool; where it says yes, the row is short and so is the id. -/
def BytesPost (n : Nat) (id : ByteArray) (w : World) (e : Ending) (w' : World) : Prop :=
  ∃ r : Bool, e = .returned (.bool r) ∧ w' = w ∧ (r = true → n ≤ 1048576 ∧ id.size ≤ 1048576)

theorem bytesPost_no {n : Nat} {id : ByteArray} {w : World} {v : Value} (h : v = .bool false) : BytesPost n id w (.returned v) w := ⟨false, by rw [h], rfl, fun h => by cases h⟩
theorem bytesPost_yes {n : Nat} {id : ByteArray} {w : World} {v : Value} (h : v = .bool true) (h1 : n ≤ 1048576) (h2 : id.size ≤ 1048576) : BytesPost n id w (.returned v) w := ⟨true, by rw [h], rfl, fun _ => ⟨h1, h2⟩⟩

set_option maxHeartbeats 1000000 in
theorem bytes5_any (c m : Int) (a : Option Addr) (n cap : Nat) (S : Nat → ByteArray) (subj id : ByteArray) (now now2 : Int) (w : World) (hn : n ≤ maxLen) (hs : subj.size ≤ maxLen) (hi : id.size ≤ maxLen) (hR : Row w a n S) :
    Calls Tryf.prog 5 #[.int .i64 c, .int .i64 m, .slice a n cap, .string subj, .string id, .int .i64 now, .int .i64 now2] w (BytesPost n id w) := by
  unfold maxLen at hn hs hi
  by_cases h1 : n ≤ 1048576
  · go_enter Tryf.func5, Tryf.ntmps5
    go_wp2
    go_loop [15, 16] (fun z i => ∃ k y : Nat, k ≤ n ∧ i = .int .i64 k ∧ z = .int .i64 y ∧ y ≤ 1048576) (fun _ i => n - (intOf i).toNat)
    case atStart => exact ⟨0, n, by omega, rfl, rfl, h1⟩
    case round =>
      obtain ⟨k, y, hk, rfl, rfl, hy⟩ := hrel
      by_cases hlt : k < n
      · obtain ⟨b, off, rfl, hck, hzk⟩ := hR k hlt
        unfold maxLen at hzk
        clear hR
        generalize S k = s at hck hzk
        go_wp2
        · go_ret; exact bytesPost_no rfl
        · go_ret; exact bytesPost_no rfl
        · go_round
          case rel => exact ⟨k + 1, y + s.size, by omega, by go_num, by go_num, by omega⟩
          case measure => simp [intOf]; omega
      · clear hR
        go_wp2
        all_goals (go_ret; first | exact bytesPost_no rfl | exact bytesPost_yes rfl h1 (by omega))
  · go_enter Tryf.func5, Tryf.ntmps5
    go_wp2
    go_ret
    exact bytesPost_no rfl

set_option maxHeartbeats 1000000 in
theorem bytes14_any (c m : Int) (a : Option Addr) (n cap : Nat) (S : Nat → ByteArray) (subj id : ByteArray) (now : Int) (w : World) (hn : n ≤ maxLen) (hs : subj.size ≤ maxLen) (hi : id.size ≤ maxLen) (hR : Row w a n S) :
    Calls Tryf.prog 14 #[.int .i64 c, .int .i64 m, .slice a n cap, .string subj, .string id, .int .i64 now] w (BytesPost n id w) := by
  unfold maxLen at hn hs hi
  by_cases h1 : n ≤ 1048576
  · go_enter Tryf.func14, Tryf.ntmps14
    go_wp2
    go_loop [13, 14] (fun z i => ∃ k y : Nat, k ≤ n ∧ i = .int .i64 k ∧ z = .int .i64 y ∧ y ≤ 1048576) (fun _ i => n - (intOf i).toNat)
    case atStart => exact ⟨0, n, by omega, rfl, rfl, h1⟩
    case round =>
      obtain ⟨k, y, hk, rfl, rfl, hy⟩ := hrel
      by_cases hlt : k < n
      · obtain ⟨b, off, rfl, hck, hzk⟩ := hR k hlt
        unfold maxLen at hzk
        clear hR
        generalize S k = s at hck hzk
        go_wp2
        · go_ret; exact bytesPost_no rfl
        · go_ret; exact bytesPost_no rfl
        · go_round
          case rel => exact ⟨k + 1, y + s.size, by omega, by go_num, by go_num, by omega⟩
          case measure => simp [intOf]; omega
      · clear hR
        go_wp2
        all_goals (go_ret; first | exact bytesPost_no rfl | exact bytesPost_yes rfl h1 (by omega))
  · go_enter Tryf.func14, Tryf.ntmps14
    go_wp2
    go_ret
    exact bytesPost_no rfl

/-- Some bool; the world stands. -/
def SomeBool (w : World) (e : Ending) (w' : World) : Prop := ∃ r : Bool, e = .returned (.bool r) ∧ w' = w
theorem someBool {w : World} {v : Value} (r : Bool) (h : v = .bool r) : SomeBool w (.returned v) w := ⟨r, by rw [h], rfl⟩

set_option maxHeartbeats 1000000 in
theorem tooBig_any (a : Option Addr) (n cap : Nat) (S : Nat → ByteArray) (subj id : ByteArray) (w : World) (hn : n ≤ maxLen) (hs : subj.size ≤ maxLen) (hi : id.size ≤ maxLen) (hR : Row w a n S) :
    Calls Tryf.prog 6 #[.slice a n cap, .string subj, .string id] w (SomeBool w) := by
  unfold maxLen at hn hs hi
  go_enter Tryf.func6, Tryf.ntmps6
  go_wp2_with fail
  refine (add_any _ _ _ (by omega) (by omega) (by omega) (by omega)).mono ?_
  rintro e w' ⟨t1, rfl, ht1, ht1', rfl⟩
  go_wp2_with fail
  refine (add_any _ _ _ (by omega) (by omega) (by omega) (by omega)).mono ?_
  rintro e w' ⟨t2, rfl, ht2, ht2', rfl⟩
  go_wp2
  · go_ret; exact someBool true rfl
  go_loop [7, 8] (fun z i => ∃ (k : Nat) (y : Int), k ≤ n ∧ i = .int .i64 k ∧ z = .int .i64 y ∧ 0 ≤ y ∧ y ≤ 2097152) (fun _ i => n - (intOf i).toNat)
  case atStart => exact ⟨0, t2, by omega, rfl, rfl, by omega, by omega⟩
  case round =>
    obtain ⟨k, y, hk, rfl, rfl, hy, hy2⟩ := hrel
    by_cases hlt : k < n
    · obtain ⟨b, off, rfl, hck, hzk⟩ := hR k hlt
      unfold maxLen at hzk
      clear hR
      generalize S k = s at hck hzk
      go_wp2_with fail
      refine (add_any _ _ _ (by omega) (by omega) (by omega) (by omega)).mono ?_
      rintro e w' ⟨t3, rfl, ht3, ht3', rfl⟩
      go_wp2_with fail
      refine (add_any _ _ _ (by omega) (by omega) (by omega) (by omega)).mono ?_
      rintro e w' ⟨t4, rfl, ht4, ht4', rfl⟩
      go_wp2
      · go_ret; exact someBool true rfl
      · go_round
        case rel => exact ⟨k + 1, t4, by omega, by go_num, rfl, by omega, by omega⟩
        case measure => simp [intOf]; omega
    · clear hR
      go_wp2
      go_ret; exact someBool false rfl

end Go.Proofs.Qxb6615671aFmt
