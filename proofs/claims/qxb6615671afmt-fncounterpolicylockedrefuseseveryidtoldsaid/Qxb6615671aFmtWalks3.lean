/-
  Walks: member, the session number that the law itself reads, the clone.
-/
import Derived.Test.Qxb6615671aFmtWalks2
namespace Go.Proofs.Qxb6615671aFmt
open Go.RowKit

theorem ba_ext {x y : ByteArray} (h : x.toList = y.toList) : x = y := by
  rw [Lib.toList_data, Lib.toList_data] at h
  cases x with
  | mk a => cases y with
    | mk b => exact congrArg ByteArray.mk (Array.toList_inj.1 h)
theorem ba_beq {x y : ByteArray} (h : ¬ x = y) : (x.toList == y.toList) = false := by
  rw [beq_eq_false_iff_ne]
  exact fun e => h (ba_ext e)

theorem member_yes {n : Nat} {S : Nat → ByteArray} {x : ByteArray} {k : Nat} (hk : k < n) (h : S k = x) : Pl.member n S x = true := by
  simp only [Pl.member, decide_eq_true_eq]; exact ⟨k, hk, h⟩
theorem member_no {n : Nat} {S : Nat → ByteArray} {x : ByteArray} (h : ∀ j, j < n → ¬ S j = x) : Pl.member n S x = false := by
  simp only [Pl.member, decide_eq_false_iff_not]; rintro ⟨j, hj, e⟩; exact h j hj e

set_option maxHeartbeats 1000000 in
theorem member_any (a : Option Addr) (n cap : Nat) (S : Nat → ByteArray) (x : ByteArray) (w : World) (hn : n ≤ maxLen) (hR : Row w a n S) :
    Calls Tryf.prog 13 #[.slice a n cap, .string x] w fun e w' => e = .returned (.bool (Pl.member n S x)) ∧ w' = w := by
  unfold maxLen at hn
  go_enter Tryf.func13, Tryf.ntmps13
  go_wp2
  go_loop [5] (fun i => ∃ k : Nat, k ≤ n ∧ i = .int .i64 k ∧ Hid (∀ j, j < k → ¬ S j = x)) (fun i => n - (intOf i).toNat)
  case atStart => exact ⟨0, by omega, rfl, fun j h => by omega⟩
  case round =>
    obtain ⟨k, hk, rfl, HS⟩ := hrel
    by_cases hlt : k < n
    · obtain ⟨b, off, rfl, hck, hzk⟩ := hR k hlt
      clear hR hzk
      by_cases hx : S k = x
      · have hm := member_yes hlt hx
        rw [hx] at hck
        have HM := hide hm
        clear hm hx HS
        go_wp2
        go_ret
        exact ⟨by rw [HM.out]; rfl, rfl⟩
      · have hb := ba_beq hx
        have HS1 : Hid (∀ j, j < k + 1 → ¬ S j = x) := fun j hj => by
          rcases Nat.lt_or_ge j k with h1 | h1
          · exact HS.out j h1
          · rw [show j = k by omega]; exact hx
        clear HS hx
        generalize S k = s at hck hb
        go_wp2
        go_round
        case rel => exact ⟨k + 1, by omega, by go_num, HS1⟩
        case measure => simp [intOf]; omega
    · clear hR
      have hm : Pl.member n S x = false := member_no (fun j hj => HS.out j (by omega))
      have HM := hide hm
      clear hm HS
      go_wp2
      go_ret
      exact ⟨by rw [HM.out]; rfl, rfl⟩

/-- What the law reads of an id. -/
def sessV (s : ByteArray) : Value := .tuple #[.int .i64 (((Pl.sessNum s.data.toList).getD 0 : Nat) : Int), .bool (Pl.sessNum s.data.toList).isSome]

theorem drop_cons (s : ByteArray) (k : Nat) (h : k < s.size) : s.data.toList.drop k = s[k] :: s.data.toList.drop (k + 1) := by
  rw [List.drop_eq_getElem_cons (by simpa using h)]; rfl

set_option maxHeartbeats 400000 in
theorem sess_short (s : ByteArray) (w : World) (h : s.size = 0) : Calls Tryf.prog 11 #[.string s] w fun e w' => e = .returned (.tuple #[.int .i64 0, .bool false]) ∧ w' = w := by
  go_enter Tryf.func11, Tryf.ntmps11
  go_wp2
  all_goals (go_ret2; exact ⟨rfl, rfl⟩)
set_option maxHeartbeats 400000 in
theorem sess_long (s : ByteArray) (w : World) (hs : s.size ≤ 9223372036854775807) (h : 19 < s.size) : Calls Tryf.prog 11 #[.string s] w fun e w' => e = .returned (.tuple #[.int .i64 0, .bool false]) ∧ w' = w := by
  go_enter Tryf.func11, Tryf.ntmps11
  go_wp2
  all_goals (go_ret2; exact ⟨rfl, rfl⟩)
set_option maxHeartbeats 400000 in
theorem sess_lead (s : ByteArray) (w : World) (h1 : 1 < s.size) (h2 : s.size ≤ 19) (h0 : ((s[0].toNat : Int) == 48) = true) : Calls Tryf.prog 11 #[.string s] w fun e w' => e = .returned (.tuple #[.int .i64 0, .bool false]) ∧ w' = w := by
  go_enter Tryf.func11, Tryf.ntmps11
  go_wp2
  all_goals (go_ret2; exact ⟨rfl, rfl⟩)
theorem ne_empty {s : ByteArray} (h : 0 < s.size) : ¬ s = ByteArray.empty := by
  rintro rfl
  simp at h

/-- What the digits spell from the k-th on, behind m: as from the first on. -/
def SessRel (s : ByteArray) (k m : Nat) : Prop := Pl.digs 0 s.data.toList = Pl.digs m (s.data.toList.drop k)

def SessPost (s : ByteArray) (w : World) (e : Ending) (w' : World) : Prop :=
  e = .returned (.tuple #[.int .i64 (((Pl.digs 0 s.data.toList).getD 0 : Nat) : Int), .bool (Pl.digs 0 s.data.toList).isSome]) ∧ w' = w

theorem sessRel_end {s : ByteArray} {k m : Nat} {w : World} {v : Value} (h : SessRel s k m) (hk : s.size ≤ k) (hv : v = .tuple #[.int .i64 (m : Int), .bool true]) : SessPost s w (.returned v) w := by
  have : s.data.toList.drop k = [] := List.drop_eq_nil_of_le (by rw [← Lib.size_eq]; exact hk)
  unfold SessRel at h
  rw [this] at h
  unfold SessPost
  rw [h, hv]
  exact ⟨rfl, rfl⟩
theorem sessRel_bad {s : ByteArray} {k m : Nat} {w : World} {v : Value} (h : SessRel s k m) (hk : k < s.size) (hd : ¬ (48 ≤ s[k].toNat ∧ s[k].toNat ≤ 57)) (hv : v = .tuple #[.int .i64 0, .bool false]) : SessPost s w (.returned v) w := by
  unfold SessRel at h
  rw [drop_cons s k hk] at h
  simp only [Pl.digs] at h
  rw [if_neg hd] at h
  unfold SessPost
  rw [h, hv]
  exact ⟨rfl, rfl⟩
theorem sessRel_big {s : ByteArray} {k m : Nat} {w : World} {v : Value} (h : SessRel s k m) (hk : k < s.size) (hd : 48 ≤ s[k].toNat ∧ s[k].toNat ≤ 57) (hm : 9223372036854775807 < m * 10 + (s[k].toNat - 48)) (hv : v = .tuple #[.int .i64 0, .bool false]) : SessPost s w (.returned v) w := by
  unfold SessRel at h
  rw [drop_cons s k hk] at h
  simp only [Pl.digs] at h
  rw [if_pos hd, if_pos hm] at h
  unfold SessPost
  rw [h, hv]
  exact ⟨rfl, rfl⟩
theorem sessRel_step {s : ByteArray} {k m : Nat} (h : SessRel s k m) (hk : k < s.size) (hd : 48 ≤ s[k].toNat ∧ s[k].toNat ≤ 57) (hm : ¬ 9223372036854775807 < m * 10 + (s[k].toNat - 48)) : SessRel s (k + 1) (m * 10 + (s[k].toNat - 48)) := by
  unfold SessRel at h ⊢
  rw [drop_cons s k hk] at h
  simp only [Pl.digs] at h
  rw [if_pos hd, if_neg hm] at h
  exact h

set_option maxHeartbeats 1000000 in
theorem sess_loop1 (s : ByteArray) (w : World) (h1 : 1 < s.size) (h2 : s.size ≤ 19) (h0 : ((s[0].toNat : Int) == 48) = false) : Calls Tryf.prog 11 #[.string s] w (SessPost s w) := by
  have hne := ne_empty (s := s) (by omega)
  have hz : ((s.size : Int) == 0) = false := beq_eq_false_iff_ne.2 (by omega)
  go_enter Tryf.func11, Tryf.ntmps11
  go_wp2
  go_loop [4, 5] (fun n i => ∃ k m : Nat, k ≤ s.size ∧ i = .int .i64 k ∧ n = .int .i64 m ∧ m ≤ 9223372036854775807 ∧ SessRel s k m) (fun _ i => s.size - (intOf i).toNat)
  case atStart => exact ⟨0, 0, by omega, rfl, rfl, by omega, rfl⟩
  case round =>
    obtain ⟨k, m, hk, rfl, rfl, hm, hR⟩ := hrel
    by_cases hlt : k < s.size
    · have hb := s[k].toNat_lt
      by_cases hd1 : s[k].toNat < 48
      · go_wp2
        go_ret2
        exact sessRel_bad hR hlt (by omega) rfl
      · by_cases hd2 : 57 < s[k].toNat
        · go_wp2
          go_ret2
          exact sessRel_bad hR hlt (by omega) rfl
        · by_cases hbig : 9223372036854775807 < m * 10 + (s[k].toNat - 48)
          · go_wp2
            go_ret2
            exact sessRel_big hR hlt (by omega) hbig rfl
          · have hst := sessRel_step hR hlt (by omega) hbig
            have HST := hide hst
            clear hst
            go_wp2
            go_round
            case rel => exact ⟨k + 1, m * 10 + (s[k].toNat - 48), by omega, by go_num, by go_num, by omega, HST.out⟩
            case measure => simp [intOf]; omega
    · go_wp2
      go_ret2
      exact sessRel_end hR (by omega) rfl

set_option maxHeartbeats 1000000 in
theorem sess_loop2 (s : ByteArray) (w : World) (h1 : 0 < s.size) (h2 : s.size ≤ 1) : Calls Tryf.prog 11 #[.string s] w (SessPost s w) := by
  have hne := ne_empty (s := s) (by omega)
  have hz : ((s.size : Int) == 0) = false := beq_eq_false_iff_ne.2 (by omega)
  go_enter Tryf.func11, Tryf.ntmps11
  go_wp2
  go_loop [4, 5] (fun n i => ∃ k m : Nat, k ≤ s.size ∧ i = .int .i64 k ∧ n = .int .i64 m ∧ m ≤ 9223372036854775807 ∧ SessRel s k m) (fun _ i => s.size - (intOf i).toNat)
  case atStart => exact ⟨0, 0, by omega, rfl, rfl, by omega, rfl⟩
  case round =>
    obtain ⟨k, m, hk, rfl, rfl, hm, hR⟩ := hrel
    by_cases hlt : k < s.size
    · have hb := s[k].toNat_lt
      by_cases hd1 : s[k].toNat < 48
      · go_wp2
        go_ret2
        exact sessRel_bad hR hlt (by omega) rfl
      · by_cases hd2 : 57 < s[k].toNat
        · go_wp2
          go_ret2
          exact sessRel_bad hR hlt (by omega) rfl
        · by_cases hbig : 9223372036854775807 < m * 10 + (s[k].toNat - 48)
          · go_wp2
            go_ret2
            exact sessRel_big hR hlt (by omega) hbig rfl
          · have hst := sessRel_step hR hlt (by omega) hbig
            have HST := hide hst
            clear hst
            go_wp2
            go_round
            case rel => exact ⟨k + 1, m * 10 + (s[k].toNat - 48), by omega, by go_num, by go_num, by omega, HST.out⟩
            case measure => simp [intOf]; omega
    · go_wp2
      go_ret2
      exact sessRel_end hR (by omega) rfl

theorem head_at (s : ByteArray) (h : 0 < s.size) : s.data.toList.head? = some s[0] := by
  have := drop_cons s 0 h
  rw [List.drop_zero] at this
  rw [this]
  rfl

/-- zzSessionNumber. -/
theorem sess_any (s : ByteArray) (w : World) (hs : s.size ≤ maxLen) :
    Calls Tryf.prog 11 #[.string s] w fun e w' => e = .returned (sessV s) ∧ w' = w := by
  unfold maxLen at hs
  have hlen : s.data.toList.length = s.size := (Lib.size_eq s).symm
  by_cases h1 : s.size = 0 ∨ 19 < s.size
  · have e1 : Pl.sessNum s.data.toList = none := by unfold Pl.sessNum; rw [if_pos (by omega)]
    have e2 : sessV s = .tuple #[.int .i64 0, .bool false] := by unfold sessV; rw [e1]; rfl
    rw [e2]
    rcases h1 with h | h
    · exact sess_short s w h
    · exact sess_long s w hs h
  · by_cases h2 : 1 < s.size
    · by_cases h3 : s[0] = 48
      · have e1 : Pl.sessNum s.data.toList = none := by
          unfold Pl.sessNum
          rw [if_neg (by omega), if_pos ⟨by omega, by rw [head_at s (by omega), h3]⟩]
        have e2 : sessV s = .tuple #[.int .i64 0, .bool false] := by unfold sessV; rw [e1]; rfl
        rw [e2]
        exact sess_lead s w h2 (by omega) (by rw [h3]; rfl)
      · have e1 : Pl.sessNum s.data.toList = Pl.digs 0 s.data.toList := by
          unfold Pl.sessNum
          rw [if_neg (by omega), if_neg (by rw [head_at s (by omega)]; rintro ⟨_, h⟩; exact h3 (Option.some.inj h))]
        unfold sessV
        rw [e1]
        refine sess_loop1 s w h2 (by omega) (beq_eq_false_iff_ne.2 fun h => h3 ?_)
        apply UInt8.toNat_inj.1
        show s[0].toNat = 48
        omega
    · have e1 : Pl.sessNum s.data.toList = Pl.digs 0 s.data.toList := by
        unfold Pl.sessNum
        rw [if_neg (by omega), if_neg (by omega)]
      unfold sessV
      rw [e1]
      exact sess_loop2 s w (by omega) (by omega)
end Go.Proofs.Qxb6615671aFmt
