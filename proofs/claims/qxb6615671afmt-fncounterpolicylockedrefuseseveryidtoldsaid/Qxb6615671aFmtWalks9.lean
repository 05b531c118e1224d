/-
  Walks: the second law.
-/
import Derived.Test.Qxb6615671aFmtWalks8
import Derived.Laws.DeepNot64
namespace Go.Proofs.Qxb6615671aFmt
open Go.RowKit Go.Extern.Stop Go.Stop Go.Extern

theorem not64 (c : Int) (h0 : 0 ≤ c) (h1 : c ≤ 9223372036854775807) : bits .xor .i64 (-1) c = -1 - c := by
  have := i64_not c.toNat (by omega)
  rwa [Int.toNat_of_nonneg h0] at this

theorem assert_ok (N : Nat) (w : World) : (Instr.typeAssert (.iface 48 (.pointer (some ⟨N, 0, none⟩))) 35 48 true).run Tryf.prog w = .ok (.tuple #[.pointer (some ⟨N, 0, none⟩), .bool true]) w := by
  simp [Instr.typeAssert, run_underlying Tryf.underlying48]

set_option maxHeartbeats 400000 in
theorem reason_any (N : Nat) (r : ByteArray) (w : World) (h : w.cell? ⟨N, 0, none⟩ = some (.string r)) :
    Calls Tryf.prog 16 #[.iface 48 (.pointer (some ⟨N, 0, none⟩))] w fun e w' => e = .returned (.tuple #[.string r, .bool true]) ∧ w' = w := by
  have hta := assert_ok N
  go_enter Tryf.func16, Tryf.ntmps16
  go_wp2
  go_ret2
  exact ⟨rfl, rfl⟩

theorem noID_eq : (noID.toList == [116, 104, 101, 32, 114, 117, 110, 101, 32, 104, 97, 115, 32, 110, 111, 32, 117, 110, 105, 113, 117, 101, 32, 105, 100]) = true := by decide +kernel
theorem lockedR_eq : (lockedR.toList == [116, 104, 101, 32, 115, 117, 98, 106, 101, 99, 116, 32, 105, 115, 32, 108, 111, 99, 107, 101, 100]) = true := by decide +kernel

/-- What a locked policy answers: a refusal, its reason known where the law asks. -/
def LockAns (id : ByteArray) (w : World) (e : Ending) (w' : World) : Prop :=
  ∃ N r, e = .returned (.iface 48 (.pointer (some ⟨N, 0, none⟩))) ∧ w'.cell? ⟨N, 0, none⟩ = some (.string r) ∧ Below w.heap.size w w' ∧ (id.size = 0 → r = noID) ∧ ((Pl.sessNum id.data.toList).isSome = true → r = lockedR)

theorem liveAll_neg {c m : Int} {n : Nat} {S : Nat → ByteArray} {id : ByteArray} (h : c < 0) : liveAll c m n S id = false := by
  unfold liveAll
  split
  · rw [liveB_neg h]; rfl
  · rfl

theorem LivePost.lock {c m : Int} {n : Nat} {S : Nat → ByteArray} {id : ByteArray} {w : World} {e : Ending} {w' : World} (h : LivePost c m n S id w e w') (hc : c < 0) : LockAns id w e w' := by
  rcases h with ⟨h1, _, _⟩ | ⟨_, v, r, h2, ⟨N, h3, _, h4, h5⟩, h6, h7⟩
  · rw [liveAll_neg hc] at h1; cases h1
  · exact ⟨N, r, by rw [h2, h3], h4, h5, h6, h7 hc⟩


set_option maxHeartbeats 2000000 in
theorem law2_empty_neg (F : Interp) (c m now : Int) (a : Option Addr) (n cap : Nat) (S : Nat → ByteArray) (subj : ByteArray) (w : World) (hF : F.answers w.tape) (hE : Env w) (hR : Row w a n S) (ha : a = none → n = 0 ∧ cap = 0)
    (hnm : n ≤ maxLen) (hsm : subj.size ≤ maxLen) (hc : -9223372036854775808 ≤ c) (hc2 : c ≤ 9223372036854775807) (hm : -9223372036854775808 ≤ m) (hm2 : m ≤ 9223372036854775807)
    (h0 : c < 0) :
    Calls Tryf.prog 4 #[.int .i64 c, .int .i64 m, .slice a n cap, .string subj, .string ⟨#[]⟩, .int .i64 now] w (Yes w) := by
  have hno := noID_eq
  have C5 := hide (bytes14_any c m a n cap S subj ⟨#[]⟩ now w hnm hsm (Nat.zero_le _) hR)
  have C6 := hide (tooBig_any a n cap S subj ⟨#[]⟩ w hnm hsm (Nat.zero_le _) hR)
  have C7 := hide (sorted_any a n cap S w hnm hR)
  have C8 := hide (fun w1 (hb : Below w.heap.size w w1) (hn : n ≤ 1048576) => clone_any a n cap S w1 ha hn (hR.below hb))
  have C10 := hide (fun w1 (hb : Below w.heap.size w w1) (hn : n ≤ 1048576) (hi : (⟨#[]⟩ : ByteArray).size ≤ 1048576) p (hr : Rec w1 p n S) (hS : Pl.Sorted n S) => (live10_any F (c) m now p subj ⟨#[]⟩ n S w1 (by rw [hb.tape]; exact hF) hi hn (hE.below hb) hr hS (by omega) (by omega) hm hm2).mono (fun e w' h => h.lock (by omega)))
  clear hF hE hR ha hnm hsm
  go_enter Tryf.func4, Tryf.ntmps4
  go_wp2_with fail
  refine C5.out.mono ?_
  rintro e w1 ⟨r, rfl, hw, hr⟩
  subst hw
  cases r
  · go_wp2
    go_ret
    exact ⟨rfl, Below.refl _ _⟩
  obtain ⟨hn, hi⟩ := hr rfl
  clear hr
  go_wp2_with fail
  refine C6.out.mono ?_
  rintro e w2 ⟨r, rfl, hw⟩
  subst hw
  cases r
  rotate_left
  · go_wp2
    go_ret
    exact ⟨rfl, Below.refl _ _⟩
  go_wp2_with fail
  refine C7.out.mono ?_
  rintro e w3 ⟨r, q, rfl, hw, hS⟩
  have B3 : Below w2.heap.size w2 w3 := by rw [hw]; exact below_drewN (Below.refl _ _) q
  clear hw
  cases r
  · go_wp2
    go_ret
    exact ⟨rfl, B3⟩
  have HS := hide (hS rfl)
  clear hS
  go_wp2_with fail
  refine (C8.out _ B3 hn).mono ?_
  rintro e w4 ⟨a', c', rfl, hb4, hs4⟩
  have B4 : Below w2.heap.size w2 w4 := B3.trans (hb4.mono B3.size)
  have C9 := hide (newRevoked_any a' n c' S w4 hn hs4)
  clear hb4 B3 hs4
  go_wp2_with fail
  refine C9.out.mono ?_
  rintro e w5 ⟨p, rfl, hb5, hR5⟩
  have B5 : Below w2.heap.size w2 w5 := B4.trans (hb5.mono B4.size)
  clear hb5 B4 C9
  have B6 : Below w5.heap.size w5 (w5.alloc (.cells #[.int .i64 (c), .int .i64 m, .pointer p, .string subj] 33)) := (Below.refl _ _).alloc (Nat.le_refl _) _
  have HR6 := hide (hR5.below B6)
  have B7 : Below w2.heap.size w2 (w5.alloc (.cells #[.int .i64 (c), .int .i64 m, .pointer p, .string subj] 33)) := B5.trans (B6.mono B5.size)
  have HB7 := hide B7
  clear hR5 B6 B7
  go_wp2_with fail
  refine (locked_neg (c) _ (by omega)).mono ?_
  rintro e w9 ⟨rfl, hw⟩
  have HW := hide hw
  clear hw
  rw [HW.out]
  clear HW
  go_wp2_with fail
  refine (C10.out _ HB7.out hn hi p HR6.out HS.out).mono ?_
  rintro e w6 ⟨N, r, rfl, hr0, hb8, hr1, hr2⟩
  rw [size_pol] at hb8
  obtain ⟨q0, q1, q2, q3⟩ := pol_cells hb8
  have hB8 : Below w2.heap.size w2 w6 := HB7.out.trans (hb8.mono (by have := B5.size; omega))
  have HBB := hide hB8
  clear hb8 hB8
  obtain rfl := hr1 rfl
  clear hr1 hr2
  go_wp2_with fail
  refine (reason_any N _ _ hr0).mono ?_
  rintro e w7 ⟨rfl, hw⟩
  subst hw
  go_wp2
  all_goals (go_ret; exact ⟨rfl, HBB.out⟩)

set_option maxHeartbeats 2000000 in
theorem law2_some_neg (F : Interp) (c m now : Int) (a : Option Addr) (n cap : Nat) (S : Nat → ByteArray) (subj id : ByteArray) (w : World) (hF : F.answers w.tape) (hE : Env w) (hR : Row w a n S) (ha : a = none → n = 0 ∧ cap = 0)
    (hnm : n ≤ maxLen) (hsm : subj.size ≤ maxLen) (him : id.size ≤ maxLen) (hc : -9223372036854775808 ≤ c) (hc2 : c ≤ 9223372036854775807) (hm : -9223372036854775808 ≤ m) (hm2 : m ≤ 9223372036854775807)
    (u : Nat) (h : Pl.sessNum id.data.toList = some u) (h0 : c < 0) :
    Calls Tryf.prog 4 #[.int .i64 c, .int .i64 m, .slice a n cap, .string subj, .string id, .int .i64 now] w (Yes w) := by
  obtain ⟨hne, _, hu, _, _, _, _⟩ := Pl.sess_some h
  have hem := isEmpty_no (s := id) (by rw [Lib.size_eq]; exact List.length_pos_iff.2 hne)
  have HI : Hid ((Pl.sessNum id.data.toList).isSome = true) := by rw [h]; exact rfl
  have C11 := hide (fun w1 => sess_some_call id u w1 him h)
  have C12 := hide (fun w1 => live_of (c) u m w1 (by omega) (by omega) (by omega) (by omega) hm hm2 _ (liveB_neg (by omega)))
  clear h hne
  have hno := lockedR_eq
  have C5 := hide (bytes14_any c m a n cap S subj id now w hnm hsm him hR)
  have C6 := hide (tooBig_any a n cap S subj id w hnm hsm him hR)
  have C7 := hide (sorted_any a n cap S w hnm hR)
  have C8 := hide (fun w1 (hb : Below w.heap.size w w1) (hn : n ≤ 1048576) => clone_any a n cap S w1 ha hn (hR.below hb))
  have C10 := hide (fun w1 (hb : Below w.heap.size w w1) (hn : n ≤ 1048576) (hi : id.size ≤ 1048576) p (hr : Rec w1 p n S) (hS : Pl.Sorted n S) => (live10_any F (c) m now p subj id n S w1 (by rw [hb.tape]; exact hF) hi hn (hE.below hb) hr hS (by omega) (by omega) hm hm2).mono (fun e w' h => h.lock (by omega)))
  clear hF hE hR ha hnm hsm him
  go_enter Tryf.func4, Tryf.ntmps4
  go_wp2_with fail
  refine C5.out.mono ?_
  rintro e w1 ⟨r, rfl, hw, hr⟩
  subst hw
  cases r
  · go_wp2
    go_ret
    exact ⟨rfl, Below.refl _ _⟩
  obtain ⟨hn, hi⟩ := hr rfl
  clear hr
  go_wp2_with fail
  refine C6.out.mono ?_
  rintro e w2 ⟨r, rfl, hw⟩
  subst hw
  cases r
  rotate_left
  · go_wp2
    go_ret
    exact ⟨rfl, Below.refl _ _⟩
  go_wp2_with fail
  refine C7.out.mono ?_
  rintro e w3 ⟨r, q, rfl, hw, hS⟩
  have B3 : Below w2.heap.size w2 w3 := by rw [hw]; exact below_drewN (Below.refl _ _) q
  clear hw
  cases r
  · go_wp2
    go_ret
    exact ⟨rfl, B3⟩
  have HS := hide (hS rfl)
  clear hS
  go_wp2_with fail
  refine (C8.out _ B3 hn).mono ?_
  rintro e w4 ⟨a', c', rfl, hb4, hs4⟩
  have B4 : Below w2.heap.size w2 w4 := B3.trans (hb4.mono B3.size)
  have C9 := hide (newRevoked_any a' n c' S w4 hn hs4)
  clear hb4 B3 hs4
  go_wp2_with fail
  refine C9.out.mono ?_
  rintro e w5 ⟨p, rfl, hb5, hR5⟩
  have B5 : Below w2.heap.size w2 w5 := B4.trans (hb5.mono B4.size)
  clear hb5 B4 C9
  have B6 : Below w5.heap.size w5 (w5.alloc (.cells #[.int .i64 (c), .int .i64 m, .pointer p, .string subj] 33)) := (Below.refl _ _).alloc (Nat.le_refl _) _
  have HR6 := hide (hR5.below B6)
  have B7 : Below w2.heap.size w2 (w5.alloc (.cells #[.int .i64 (c), .int .i64 m, .pointer p, .string subj] 33)) := B5.trans (B6.mono B5.size)
  have HB7 := hide B7
  clear hR5 B6 B7
  go_wp2_with fail
  refine (locked_neg (c) _ (by omega)).mono ?_
  rintro e w9 ⟨rfl, hw⟩
  have HW := hide hw
  clear hw
  rw [HW.out]
  clear HW
  go_wp2_with fail
  refine (C10.out _ HB7.out hn hi p HR6.out HS.out).mono ?_
  rintro e w6 ⟨N, r, rfl, hr0, hb8, hr1, hr2⟩
  rw [size_pol] at hb8
  obtain ⟨q0, q1, q2, q3⟩ := pol_cells hb8
  have hB8 : Below w2.heap.size w2 w6 := HB7.out.trans (hb8.mono (by have := B5.size; omega))
  have HBB := hide hB8
  clear hb8 hB8
  obtain rfl := hr2 HI.out
  clear hr1 hr2
  go_wp2_with fail
  refine (reason_any N _ _ hr0).mono ?_
  rintro e w7 ⟨rfl, hw⟩
  subst hw
  go_wp2_with fail
  refine (C11.out _).mono ?_
  rintro e w8 ⟨rfl, hw⟩
  subst hw
  go_wp2_with fail
  refine (C12.out _).mono ?_
  rintro e w9 ⟨rfl, hw⟩
  subst hw
  go_wp2
  all_goals (go_ret; exact ⟨rfl, HBB.out⟩)

set_option maxHeartbeats 2000000 in
theorem law2_none_neg (F : Interp) (c m now : Int) (a : Option Addr) (n cap : Nat) (S : Nat → ByteArray) (subj id : ByteArray) (w : World) (hF : F.answers w.tape) (hE : Env w) (hR : Row w a n S) (ha : a = none → n = 0 ∧ cap = 0)
    (hnm : n ≤ maxLen) (hsm : subj.size ≤ maxLen) (him : id.size ≤ maxLen) (hc : -9223372036854775808 ≤ c) (hc2 : c ≤ 9223372036854775807) (hm : -9223372036854775808 ≤ m) (hm2 : m ≤ 9223372036854775807)
    (h : Pl.sessNum id.data.toList = none) (hpos : 0 < id.size) (h0 : c < 0) :
    Calls Tryf.prog 4 #[.int .i64 c, .int .i64 m, .slice a n cap, .string subj, .string id, .int .i64 now] w (Yes w) := by
  have hem := isEmpty_no hpos
  have C11 := hide (fun w1 => sess_none_call id w1 him h)
  clear h
  have C5 := hide (bytes14_any c m a n cap S subj id now w hnm hsm him hR)
  have C6 := hide (tooBig_any a n cap S subj id w hnm hsm him hR)
  have C7 := hide (sorted_any a n cap S w hnm hR)
  have C8 := hide (fun w1 (hb : Below w.heap.size w w1) (hn : n ≤ 1048576) => clone_any a n cap S w1 ha hn (hR.below hb))
  have C10 := hide (fun w1 (hb : Below w.heap.size w w1) (hn : n ≤ 1048576) (hi : id.size ≤ 1048576) p (hr : Rec w1 p n S) (hS : Pl.Sorted n S) => (live10_any F (c) m now p subj id n S w1 (by rw [hb.tape]; exact hF) hi hn (hE.below hb) hr hS (by omega) (by omega) hm hm2).mono (fun e w' h => h.lock (by omega)))
  clear hF hE hR ha hnm hsm him
  go_enter Tryf.func4, Tryf.ntmps4
  go_wp2_with fail
  refine C5.out.mono ?_
  rintro e w1 ⟨r, rfl, hw, hr⟩
  subst hw
  cases r
  · go_wp2
    go_ret
    exact ⟨rfl, Below.refl _ _⟩
  obtain ⟨hn, hi⟩ := hr rfl
  clear hr
  go_wp2_with fail
  refine C6.out.mono ?_
  rintro e w2 ⟨r, rfl, hw⟩
  subst hw
  cases r
  rotate_left
  · go_wp2
    go_ret
    exact ⟨rfl, Below.refl _ _⟩
  go_wp2_with fail
  refine C7.out.mono ?_
  rintro e w3 ⟨r, q, rfl, hw, hS⟩
  have B3 : Below w2.heap.size w2 w3 := by rw [hw]; exact below_drewN (Below.refl _ _) q
  clear hw
  cases r
  · go_wp2
    go_ret
    exact ⟨rfl, B3⟩
  have HS := hide (hS rfl)
  clear hS
  go_wp2_with fail
  refine (C8.out _ B3 hn).mono ?_
  rintro e w4 ⟨a', c', rfl, hb4, hs4⟩
  have B4 : Below w2.heap.size w2 w4 := B3.trans (hb4.mono B3.size)
  have C9 := hide (newRevoked_any a' n c' S w4 hn hs4)
  clear hb4 B3 hs4
  go_wp2_with fail
  refine C9.out.mono ?_
  rintro e w5 ⟨p, rfl, hb5, hR5⟩
  have B5 : Below w2.heap.size w2 w5 := B4.trans (hb5.mono B4.size)
  clear hb5 B4 C9
  have B6 : Below w5.heap.size w5 (w5.alloc (.cells #[.int .i64 (c), .int .i64 m, .pointer p, .string subj] 33)) := (Below.refl _ _).alloc (Nat.le_refl _) _
  have HR6 := hide (hR5.below B6)
  have B7 : Below w2.heap.size w2 (w5.alloc (.cells #[.int .i64 (c), .int .i64 m, .pointer p, .string subj] 33)) := B5.trans (B6.mono B5.size)
  have HB7 := hide B7
  clear hR5 B6 B7
  go_wp2_with fail
  refine (locked_neg (c) _ (by omega)).mono ?_
  rintro e w9 ⟨rfl, hw⟩
  have HW := hide hw
  clear hw
  rw [HW.out]
  clear HW
  go_wp2_with fail
  refine (C10.out _ HB7.out hn hi p HR6.out HS.out).mono ?_
  rintro e w6 ⟨N, r, rfl, hr0, hb8, hr1, hr2⟩
  rw [size_pol] at hb8
  obtain ⟨q0, q1, q2, q3⟩ := pol_cells hb8
  have hB8 : Below w2.heap.size w2 w6 := HB7.out.trans (hb8.mono (by have := B5.size; omega))
  have HBB := hide hB8
  clear hb8 hB8
  clear hr1 hr2
  go_wp2_with fail
  refine (reason_any N _ _ hr0).mono ?_
  rintro e w7 ⟨rfl, hw⟩
  subst hw
  go_wp2_with fail
  refine (C11.out _).mono ?_
  rintro e w8 ⟨rfl, hw⟩
  subst hw
  go_wp2
  all_goals (go_ret; exact ⟨rfl, HBB.out⟩)

set_option maxHeartbeats 2000000 in
theorem law2_empty_pos (F : Interp) (c m now : Int) (a : Option Addr) (n cap : Nat) (S : Nat → ByteArray) (subj : ByteArray) (w : World) (hF : F.answers w.tape) (hE : Env w) (hR : Row w a n S) (ha : a = none → n = 0 ∧ cap = 0)
    (hnm : n ≤ maxLen) (hsm : subj.size ≤ maxLen) (hc : -9223372036854775808 ≤ c) (hc2 : c ≤ 9223372036854775807) (hm : -9223372036854775808 ≤ m) (hm2 : m ≤ 9223372036854775807)
    (h0 : 0 ≤ c) :
    Calls Tryf.prog 4 #[.int .i64 c, .int .i64 m, .slice a n cap, .string subj, .string ⟨#[]⟩, .int .i64 now] w (Yes w) := by
  have hno := noID_eq
  have hsg : IntKind.i64.signed = true := rfl
  have hx := not64 c h0 hc2
  have C5 := hide (bytes14_any c m a n cap S subj ⟨#[]⟩ now w hnm hsm (Nat.zero_le _) hR)
  have C6 := hide (tooBig_any a n cap S subj ⟨#[]⟩ w hnm hsm (Nat.zero_le _) hR)
  have C7 := hide (sorted_any a n cap S w hnm hR)
  have C8 := hide (fun w1 (hb : Below w.heap.size w w1) (hn : n ≤ 1048576) => clone_any a n cap S w1 ha hn (hR.below hb))
  have C10 := hide (fun w1 (hb : Below w.heap.size w w1) (hn : n ≤ 1048576) (hi : (⟨#[]⟩ : ByteArray).size ≤ 1048576) p (hr : Rec w1 p n S) (hS : Pl.Sorted n S) => (live10_any F (-1 - c) m now p subj ⟨#[]⟩ n S w1 (by rw [hb.tape]; exact hF) hi hn (hE.below hb) hr hS (by omega) (by omega) hm hm2).mono (fun e w' h => h.lock (by omega)))
  clear hF hE hR ha hnm hsm
  go_enter Tryf.func4, Tryf.ntmps4
  go_wp2_with fail
  refine C5.out.mono ?_
  rintro e w1 ⟨r, rfl, hw, hr⟩
  subst hw
  cases r
  · go_wp2
    go_ret
    exact ⟨rfl, Below.refl _ _⟩
  obtain ⟨hn, hi⟩ := hr rfl
  clear hr
  go_wp2_with fail
  refine C6.out.mono ?_
  rintro e w2 ⟨r, rfl, hw⟩
  subst hw
  cases r
  rotate_left
  · go_wp2
    go_ret
    exact ⟨rfl, Below.refl _ _⟩
  go_wp2_with fail
  refine C7.out.mono ?_
  rintro e w3 ⟨r, q, rfl, hw, hS⟩
  have B3 : Below w2.heap.size w2 w3 := by rw [hw]; exact below_drewN (Below.refl _ _) q
  clear hw
  cases r
  · go_wp2
    go_ret
    exact ⟨rfl, B3⟩
  have HS := hide (hS rfl)
  clear hS
  go_wp2_with fail
  refine (C8.out _ B3 hn).mono ?_
  rintro e w4 ⟨a', c', rfl, hb4, hs4⟩
  have B4 : Below w2.heap.size w2 w4 := B3.trans (hb4.mono B3.size)
  have C9 := hide (newRevoked_any a' n c' S w4 hn hs4)
  clear hb4 B3 hs4
  go_wp2_with fail
  refine C9.out.mono ?_
  rintro e w5 ⟨p, rfl, hb5, hR5⟩
  have B5 : Below w2.heap.size w2 w5 := B4.trans (hb5.mono B4.size)
  clear hb5 B4 C9
  have B6 : Below w5.heap.size w5 (w5.alloc (.cells #[.int .i64 (-1 - c), .int .i64 m, .pointer p, .string subj] 33)) := (Below.refl _ _).alloc (Nat.le_refl _) _
  have HR6 := hide (hR5.below B6)
  have B7 : Below w2.heap.size w2 (w5.alloc (.cells #[.int .i64 (-1 - c), .int .i64 m, .pointer p, .string subj] 33)) := B5.trans (B6.mono B5.size)
  have HB7 := hide B7
  clear hR5 B6 B7
  go_wp2_with fail
  refine (locked_neg (-1 - c) _ (by omega)).mono ?_
  rintro e w9 ⟨rfl, hw⟩
  have HW := hide hw
  clear hw
  rw [HW.out]
  clear HW
  go_wp2_with fail
  refine (C10.out _ HB7.out hn hi p HR6.out HS.out).mono ?_
  rintro e w6 ⟨N, r, rfl, hr0, hb8, hr1, hr2⟩
  rw [size_pol] at hb8
  obtain ⟨q0, q1, q2, q3⟩ := pol_cells hb8
  have hB8 : Below w2.heap.size w2 w6 := HB7.out.trans (hb8.mono (by have := B5.size; omega))
  have HBB := hide hB8
  clear hb8 hB8
  obtain rfl := hr1 rfl
  clear hr1 hr2
  go_wp2_with fail
  refine (reason_any N _ _ hr0).mono ?_
  rintro e w7 ⟨rfl, hw⟩
  subst hw
  go_wp2
  all_goals (go_ret; exact ⟨rfl, HBB.out⟩)

set_option maxHeartbeats 2000000 in
theorem law2_some_pos (F : Interp) (c m now : Int) (a : Option Addr) (n cap : Nat) (S : Nat → ByteArray) (subj id : ByteArray) (w : World) (hF : F.answers w.tape) (hE : Env w) (hR : Row w a n S) (ha : a = none → n = 0 ∧ cap = 0)
    (hnm : n ≤ maxLen) (hsm : subj.size ≤ maxLen) (him : id.size ≤ maxLen) (hc : -9223372036854775808 ≤ c) (hc2 : c ≤ 9223372036854775807) (hm : -9223372036854775808 ≤ m) (hm2 : m ≤ 9223372036854775807)
    (u : Nat) (h : Pl.sessNum id.data.toList = some u) (h0 : 0 ≤ c) :
    Calls Tryf.prog 4 #[.int .i64 c, .int .i64 m, .slice a n cap, .string subj, .string id, .int .i64 now] w (Yes w) := by
  obtain ⟨hne, _, hu, _, _, _, _⟩ := Pl.sess_some h
  have hem := isEmpty_no (s := id) (by rw [Lib.size_eq]; exact List.length_pos_iff.2 hne)
  have HI : Hid ((Pl.sessNum id.data.toList).isSome = true) := by rw [h]; exact rfl
  have C11 := hide (fun w1 => sess_some_call id u w1 him h)
  have C12 := hide (fun w1 => live_of (-1 - c) u m w1 (by omega) (by omega) (by omega) (by omega) hm hm2 _ (liveB_neg (by omega)))
  clear h hne
  have hno := lockedR_eq
  have hsg : IntKind.i64.signed = true := rfl
  have hx := not64 c h0 hc2
  have C5 := hide (bytes14_any c m a n cap S subj id now w hnm hsm him hR)
  have C6 := hide (tooBig_any a n cap S subj id w hnm hsm him hR)
  have C7 := hide (sorted_any a n cap S w hnm hR)
  have C8 := hide (fun w1 (hb : Below w.heap.size w w1) (hn : n ≤ 1048576) => clone_any a n cap S w1 ha hn (hR.below hb))
  have C10 := hide (fun w1 (hb : Below w.heap.size w w1) (hn : n ≤ 1048576) (hi : id.size ≤ 1048576) p (hr : Rec w1 p n S) (hS : Pl.Sorted n S) => (live10_any F (-1 - c) m now p subj id n S w1 (by rw [hb.tape]; exact hF) hi hn (hE.below hb) hr hS (by omega) (by omega) hm hm2).mono (fun e w' h => h.lock (by omega)))
  clear hF hE hR ha hnm hsm him
  go_enter Tryf.func4, Tryf.ntmps4
  go_wp2_with fail
  refine C5.out.mono ?_
  rintro e w1 ⟨r, rfl, hw, hr⟩
  subst hw
  cases r
  · go_wp2
    go_ret
    exact ⟨rfl, Below.refl _ _⟩
  obtain ⟨hn, hi⟩ := hr rfl
  clear hr
  go_wp2_with fail
  refine C6.out.mono ?_
  rintro e w2 ⟨r, rfl, hw⟩
  subst hw
  cases r
  rotate_left
  · go_wp2
    go_ret
    exact ⟨rfl, Below.refl _ _⟩
  go_wp2_with fail
  refine C7.out.mono ?_
  rintro e w3 ⟨r, q, rfl, hw, hS⟩
  have B3 : Below w2.heap.size w2 w3 := by rw [hw]; exact below_drewN (Below.refl _ _) q
  clear hw
  cases r
  · go_wp2
    go_ret
    exact ⟨rfl, B3⟩
  have HS := hide (hS rfl)
  clear hS
  go_wp2_with fail
  refine (C8.out _ B3 hn).mono ?_
  rintro e w4 ⟨a', c', rfl, hb4, hs4⟩
  have B4 : Below w2.heap.size w2 w4 := B3.trans (hb4.mono B3.size)
  have C9 := hide (newRevoked_any a' n c' S w4 hn hs4)
  clear hb4 B3 hs4
  go_wp2_with fail
  refine C9.out.mono ?_
  rintro e w5 ⟨p, rfl, hb5, hR5⟩
  have B5 : Below w2.heap.size w2 w5 := B4.trans (hb5.mono B4.size)
  clear hb5 B4 C9
  have B6 : Below w5.heap.size w5 (w5.alloc (.cells #[.int .i64 (-1 - c), .int .i64 m, .pointer p, .string subj] 33)) := (Below.refl _ _).alloc (Nat.le_refl _) _
  have HR6 := hide (hR5.below B6)
  have B7 : Below w2.heap.size w2 (w5.alloc (.cells #[.int .i64 (-1 - c), .int .i64 m, .pointer p, .string subj] 33)) := B5.trans (B6.mono B5.size)
  have HB7 := hide B7
  clear hR5 B6 B7
  go_wp2_with fail
  refine (locked_neg (-1 - c) _ (by omega)).mono ?_
  rintro e w9 ⟨rfl, hw⟩
  have HW := hide hw
  clear hw
  rw [HW.out]
  clear HW
  go_wp2_with fail
  refine (C10.out _ HB7.out hn hi p HR6.out HS.out).mono ?_
  rintro e w6 ⟨N, r, rfl, hr0, hb8, hr1, hr2⟩
  rw [size_pol] at hb8
  obtain ⟨q0, q1, q2, q3⟩ := pol_cells hb8
  have hB8 : Below w2.heap.size w2 w6 := HB7.out.trans (hb8.mono (by have := B5.size; omega))
  have HBB := hide hB8
  clear hb8 hB8
  obtain rfl := hr2 HI.out
  clear hr1 hr2
  go_wp2_with fail
  refine (reason_any N _ _ hr0).mono ?_
  rintro e w7 ⟨rfl, hw⟩
  subst hw
  go_wp2_with fail
  refine (C11.out _).mono ?_
  rintro e w8 ⟨rfl, hw⟩
  subst hw
  go_wp2_with fail
  refine (C12.out _).mono ?_
  rintro e w9 ⟨rfl, hw⟩
  subst hw
  go_wp2
  all_goals (go_ret; exact ⟨rfl, HBB.out⟩)

set_option maxHeartbeats 2000000 in
theorem law2_none_pos (F : Interp) (c m now : Int) (a : Option Addr) (n cap : Nat) (S : Nat → ByteArray) (subj id : ByteArray) (w : World) (hF : F.answers w.tape) (hE : Env w) (hR : Row w a n S) (ha : a = none → n = 0 ∧ cap = 0)
    (hnm : n ≤ maxLen) (hsm : subj.size ≤ maxLen) (him : id.size ≤ maxLen) (hc : -9223372036854775808 ≤ c) (hc2 : c ≤ 9223372036854775807) (hm : -9223372036854775808 ≤ m) (hm2 : m ≤ 9223372036854775807)
    (h : Pl.sessNum id.data.toList = none) (hpos : 0 < id.size) (h0 : 0 ≤ c) :
    Calls Tryf.prog 4 #[.int .i64 c, .int .i64 m, .slice a n cap, .string subj, .string id, .int .i64 now] w (Yes w) := by
  have hem := isEmpty_no hpos
  have C11 := hide (fun w1 => sess_none_call id w1 him h)
  clear h
  have hsg : IntKind.i64.signed = true := rfl
  have hx := not64 c h0 hc2
  have C5 := hide (bytes14_any c m a n cap S subj id now w hnm hsm him hR)
  have C6 := hide (tooBig_any a n cap S subj id w hnm hsm him hR)
  have C7 := hide (sorted_any a n cap S w hnm hR)
  have C8 := hide (fun w1 (hb : Below w.heap.size w w1) (hn : n ≤ 1048576) => clone_any a n cap S w1 ha hn (hR.below hb))
  have C10 := hide (fun w1 (hb : Below w.heap.size w w1) (hn : n ≤ 1048576) (hi : id.size ≤ 1048576) p (hr : Rec w1 p n S) (hS : Pl.Sorted n S) => (live10_any F (-1 - c) m now p subj id n S w1 (by rw [hb.tape]; exact hF) hi hn (hE.below hb) hr hS (by omega) (by omega) hm hm2).mono (fun e w' h => h.lock (by omega)))
  clear hF hE hR ha hnm hsm him
  go_enter Tryf.func4, Tryf.ntmps4
  go_wp2_with fail
  refine C5.out.mono ?_
  rintro e w1 ⟨r, rfl, hw, hr⟩
  subst hw
  cases r
  · go_wp2
    go_ret
    exact ⟨rfl, Below.refl _ _⟩
  obtain ⟨hn, hi⟩ := hr rfl
  clear hr
  go_wp2_with fail
  refine C6.out.mono ?_
  rintro e w2 ⟨r, rfl, hw⟩
  subst hw
  cases r
  rotate_left
  · go_wp2
    go_ret
    exact ⟨rfl, Below.refl _ _⟩
  go_wp2_with fail
  refine C7.out.mono ?_
  rintro e w3 ⟨r, q, rfl, hw, hS⟩
  have B3 : Below w2.heap.size w2 w3 := by rw [hw]; exact below_drewN (Below.refl _ _) q
  clear hw
  cases r
  · go_wp2
    go_ret
    exact ⟨rfl, B3⟩
  have HS := hide (hS rfl)
  clear hS
  go_wp2_with fail
  refine (C8.out _ B3 hn).mono ?_
  rintro e w4 ⟨a', c', rfl, hb4, hs4⟩
  have B4 : Below w2.heap.size w2 w4 := B3.trans (hb4.mono B3.size)
  have C9 := hide (newRevoked_any a' n c' S w4 hn hs4)
  clear hb4 B3 hs4
  go_wp2_with fail
  refine C9.out.mono ?_
  rintro e w5 ⟨p, rfl, hb5, hR5⟩
  have B5 : Below w2.heap.size w2 w5 := B4.trans (hb5.mono B4.size)
  clear hb5 B4 C9
  have B6 : Below w5.heap.size w5 (w5.alloc (.cells #[.int .i64 (-1 - c), .int .i64 m, .pointer p, .string subj] 33)) := (Below.refl _ _).alloc (Nat.le_refl _) _
  have HR6 := hide (hR5.below B6)
  have B7 : Below w2.heap.size w2 (w5.alloc (.cells #[.int .i64 (-1 - c), .int .i64 m, .pointer p, .string subj] 33)) := B5.trans (B6.mono B5.size)
  have HB7 := hide B7
  clear hR5 B6 B7
  go_wp2_with fail
  refine (locked_neg (-1 - c) _ (by omega)).mono ?_
  rintro e w9 ⟨rfl, hw⟩
  have HW := hide hw
  clear hw
  rw [HW.out]
  clear HW
  go_wp2_with fail
  refine (C10.out _ HB7.out hn hi p HR6.out HS.out).mono ?_
  rintro e w6 ⟨N, r, rfl, hr0, hb8, hr1, hr2⟩
  rw [size_pol] at hb8
  obtain ⟨q0, q1, q2, q3⟩ := pol_cells hb8
  have hB8 : Below w2.heap.size w2 w6 := HB7.out.trans (hb8.mono (by have := B5.size; omega))
  have HBB := hide hB8
  clear hb8 hB8
  clear hr1 hr2
  go_wp2_with fail
  refine (reason_any N _ _ hr0).mono ?_
  rintro e w7 ⟨rfl, hw⟩
  subst hw
  go_wp2_with fail
  refine (C11.out _).mono ?_
  rintro e w8 ⟨rfl, hw⟩
  subst hw
  go_wp2
  all_goals (go_ret; exact ⟨rfl, HBB.out⟩)
end Go.Proofs.Qxb6615671aFmt
