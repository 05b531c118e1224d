/-
  Walks: the first law.
-/
import Derived.Test.Qxb6615671aFmtWalks7
namespace Go.Proofs.Qxb6615671aFmt
open Go.RowKit Go.Extern.Stop Go.Stop Go.Extern

/-- A slice over the clone. -/
def Src (w : World) (a : Option Addr) (n c : Nat) (S : Nat → ByteArray) : Prop :=
  0 < n → ∃ b, a = some ⟨b, 0, none⟩ ∧ c = n ∧ b < w.heap.size ∧ ∀ j, j < n → w.cell? ⟨b, 0 + j, none⟩ = some (.string (S j))
def Made (n : Nat) (S : Nat → ByteArray) (w : World) (e : Ending) (w' : World) : Prop := ∃ a c, e = .returned (.slice a n c) ∧ Below w.heap.size w w' ∧ Src w' a n c S

theorem clone_any (a : Option Addr) (n cap : Nat) (S : Nat → ByteArray) (w : World) (ha : a = none → n = 0 ∧ cap = 0) (hn : n ≤ 1048576) (hR : Row w a n S) : Calls Tryf.prog 8 #[.slice a n cap] w (Made n S w) := by
  cases a with
  | none =>
    obtain ⟨rfl, rfl⟩ := ha rfl
    refine (clone_nil w).mono ?_
    rintro e w' ⟨rfl, rfl⟩
    exact ⟨none, 0, rfl, Below.refl _ _, fun h => by omega⟩
  | some ad =>
    refine (clone_some ad n cap S w hn hR).mono ?_
    rintro e w' ⟨rfl, cs, hsz, rfl, hcs⟩
    refine ⟨_, n, rfl, (Below.refl _ _).alloc (Nat.le_refl _) _, fun h => ⟨w.heap.size, rfl, rfl, by simp, fun j hj => ?_⟩⟩
    rw [World.cell?_alloc_at _ _ _ _ rfl, Nat.zero_add]
    exact hcs j hj

theorem newRevoked_any (a : Option Addr) (n c : Nat) (S : Nat → ByteArray) (w : World) (hn : n ≤ 1048576) (hs : Src w a n c S) :
    Calls Tryf.prog 9 #[.slice a n c] w fun e w' => ∃ p, e = .returned (.agg #[.pointer p]) ∧ Below w.heap.size w w' ∧ Rec w' p n S := by
  rcases Nat.eq_zero_or_pos n with rfl | hp
  · refine (newRevoked_zero a c w).mono ?_
    rintro e w' ⟨rfl, hb⟩
    exact ⟨none, rfl, hb, Or.inl ⟨rfl, rfl⟩⟩
  · obtain ⟨b, rfl, rfl, hb, hc⟩ := hs hp
    refine (newRevoked_some _ c c w hp hn).mono ?_
    rintro e w' ⟨rfl, rfl⟩
    have hbel : Below w.heap.size w ((w.alloc (.cells #[.slice (some ⟨b, 0, none⟩) c c] 22)).alloc (.cells #[.pointer (some ⟨w.heap.size, 0, none⟩)] 30)) := ((Below.refl _ _).alloc (Nat.le_refl _) _).alloc (by simp) _
    refine ⟨_, rfl, hbel, Or.inr ⟨w.heap.size, b, rfl, ?_, fun _ => Nat.lt_of_lt_of_le hb hbel.size, fun j hj => ?_⟩⟩
    · rw [World.cell?_alloc_past _ _ _ (by simp), World.cell?_alloc_at _ _ _ _ rfl]; rfl
    · rw [hbel.cell (p := ⟨b, 0 + j, none⟩) hb]; exact hc j hj

theorem Row.below {w w' : World} {a : Option Addr} {n : Nat} {S : Nat → ByteArray} (h : Row w a n S) (hb : Below w.heap.size w w') : Row w' a n S := fun j hj => by
  obtain ⟨b, off, e, hc, hs⟩ := h j hj
  exact ⟨b, off, e, by rw [hb.cell (p := ⟨b, off + j, none⟩) (World.block_lt_of_cell? _ _ hc)]; exact hc, hs⟩

/-- True; nothing old has turned. -/
def Yes (w : World) (e : Ending) (w' : World) : Prop := e = .returned (.bool true) ∧ Below w.heap.size w w'

/-- A refusal's value, or nil, by the Bool. -/
def AnsV (L : Bool) (w : World) (e : Ending) (w' : World) : Prop :=
  (L = true → e = .returned .nilIface) ∧ (L = false → ∃ N, e = .returned (.iface 48 (.pointer (some ⟨N, 0, none⟩)))) ∧ Below w.heap.size w w'

theorem LivePost.ans {c m : Int} {n : Nat} {S : Nat → ByteArray} {id : ByteArray} {w : World} {e : Ending} {w' : World} (h : LivePost c m n S id w e w') : AnsV (liveAll c m n S id) w e w' := by
  rcases h with ⟨h1, h2, h3⟩ | ⟨h1, v, r, h2, ⟨N, h3, _, _, h4⟩, _⟩
  · rw [h1]; exact ⟨fun _ => h2, (fun h => by cases h), h3⟩
  · rw [h1]; exact ⟨(fun h => by cases h), fun _ => ⟨N, by rw [h2, h3]⟩, h4⟩


theorem sess_none_call (id : ByteArray) (w : World) (hs : id.size ≤ maxLen) (h : Pl.sessNum id.data.toList = none) : Calls Tryf.prog 11 #[.string id] w fun e w' => e = .returned (.tuple #[.int .i64 0, .bool false]) ∧ w' = w := by
  have := sess_any id w hs
  unfold sessV at this
  rw [h] at this
  exact this
theorem sess_some_call (id : ByteArray) (u : Nat) (w : World) (hs : id.size ≤ maxLen) (h : Pl.sessNum id.data.toList = some u) : Calls Tryf.prog 11 #[.string id] w fun e w' => e = .returned (.tuple #[.int .i64 u, .bool true]) ∧ w' = w := by
  have := sess_any id w hs
  unfold sessV at this
  rw [h] at this
  exact this
theorem live_of (c n m : Int) (w : World) (hc : -9223372036854775808 ≤ c) (hc2 : c ≤ 9223372036854775807) (hn : -9223372036854775808 ≤ n) (hn2 : n ≤ 9223372036854775807) (hm : -9223372036854775808 ≤ m) (hm2 : m ≤ 9223372036854775807) (b : Bool) (hb : liveB c n m = b) :
    Calls Tryf.prog 12 #[.int .i64 c, .int .i64 n, .int .i64 m] w fun e w' => e = .returned (.bool b) ∧ w' = w := by
  rw [← hb]
  exact live_any c n m w hc hc2 hn hn2 hm hm2

set_option maxHeartbeats 2000000 in
theorem law1_none (F : Interp) (c m now now2 : Int) (a : Option Addr) (n cap : Nat) (S : Nat → ByteArray) (subj id : ByteArray) (w : World) (hF : F.answers w.tape) (hE : Env w) (hR : Row w a n S) (ha : a = none → n = 0 ∧ cap = 0)
    (hnm : n ≤ maxLen) (hsm : subj.size ≤ maxLen) (him : id.size ≤ maxLen) (hc : -9223372036854775808 ≤ c) (hc2 : c ≤ 9223372036854775807) (hm : -9223372036854775808 ≤ m) (hm2 : m ≤ 9223372036854775807)
    (h : Pl.sessNum id.data.toList = none) :
    Calls Tryf.prog 3 #[.int .i64 c, .int .i64 m, .slice a n cap, .string subj, .string id, .int .i64 now, .int .i64 now2] w (Yes w) := by
  have hL : liveAll c m n S id = false := liveAll_none h
  have C11 := hide (fun w1 => sess_none_call id w1 him h)
  have C5 := hide (bytes5_any c m a n cap S subj id now now2 w hnm hsm him hR)
  have C6 := hide (tooBig_any a n cap S subj id w hnm hsm him hR)
  have C7 := hide (sorted_any a n cap S w hnm hR)
  have C8 := hide (fun w1 (hb : Below w.heap.size w w1) (hn : n ≤ 1048576) => clone_any a n cap S w1 ha hn (hR.below hb))
  have C10 := hide (fun (x : Int) w1 (hb : Below w.heap.size w w1) (hn : n ≤ 1048576) (hi : id.size ≤ 1048576) p (hr : Rec w1 p n S) (hS : Pl.Sorted n S) => (live10_any F c m x p subj id n S w1 (by rw [hb.tape]; exact hF) hi hn (hE.below hb) hr hS hc hc2 hm hm2).mono (fun e w' h => h.ans))
  have C13 := hide (fun w1 (hb : Below w.heap.size w w1) => member_any a n cap S id w1 hnm (hR.below hb))
  rw [hL] at C10
  clear hF hE hR ha hnm hsm him hL
  go_enter Tryf.func3, Tryf.ntmps3
  go_wp2_with fail
  refine C5.out.mono ?_
  rintro e w1 ⟨r, rfl, hw, hr⟩
  subst hw
  cases r
  · go_wp2
    go_ret
    exact ⟨rfl, Below.refl _ _⟩
  obtain ⟨hn, hi⟩ := hr rfl
  clear hr
  go_wp2_with fail
  refine C6.out.mono ?_
  rintro e w2 ⟨r, rfl, hw⟩
  subst hw
  cases r
  rotate_left
  · go_wp2
    go_ret
    exact ⟨rfl, Below.refl _ _⟩
  go_wp2_with fail
  refine C7.out.mono ?_
  rintro e w3 ⟨r, q, rfl, hw, hS⟩
  have B3 : Below w2.heap.size w2 w3 := by rw [hw]; exact below_drewN (Below.refl _ _) q
  clear hw
  cases r
  · go_wp2
    go_ret
    exact ⟨rfl, B3⟩
  have HS := hide (hS rfl)
  clear hS
  go_wp2_with fail
  refine (C8.out _ B3 hn).mono ?_
  rintro e w4 ⟨a', c', rfl, hb4, hs4⟩
  have B4 : Below w2.heap.size w2 w4 := B3.trans (hb4.mono B3.size)
  have C9 := hide (newRevoked_any a' n c' S w4 hn hs4)
  clear hb4 B3 hs4
  go_wp2_with fail
  refine C9.out.mono ?_
  rintro e w5 ⟨p, rfl, hb5, hR5⟩
  have B5 : Below w2.heap.size w2 w5 := B4.trans (hb5.mono B4.size)
  clear hb5 B4 C9
  have B6 : Below w5.heap.size w5 (w5.alloc (.cells #[.int .i64 c, .int .i64 m, .pointer p, .string subj] 33)) := (Below.refl _ _).alloc (Nat.le_refl _) _
  have HR6 := hide (hR5.below B6)
  have B7 : Below w2.heap.size w2 (w5.alloc (.cells #[.int .i64 c, .int .i64 m, .pointer p, .string subj] 33)) := B5.trans (B6.mono B5.size)
  have HB7 := hide B7
  clear hR5 B6 B7
  go_wp2_with fail
  refine (C10.out now _ HB7.out hn hi p HR6.out HS.out).mono ?_
  rintro e w6 ⟨hv1, hv2, hb8⟩
  rw [size_pol] at hb8
  obtain ⟨q0, q1, q2, q3⟩ := pol_cells hb8
  have HB8 := hide hb8
  have hB8 : Below w2.heap.size w2 w6 := HB7.out.trans (hb8.mono (by have := B5.size; omega))
  have HBB := hide hB8
  have hR8 : Rec w6 p n S := HR6.out.below (by rw [size_pol]; exact hb8)
  have HR8 := hide hR8
  clear hb8 hB8 hR8
  obtain ⟨N1, rfl⟩ := hv2 rfl
  clear hv1 hv2
  go_wp2_with fail
  refine (C10.out now2 _ HBB.out hn hi p HR8.out HS.out).mono ?_
  rintro e w7 ⟨hv1, hv2, hb9⟩
  have hb10 : Below (w5.heap.size + 1) (w5.alloc (.cells #[.int .i64 c, .int .i64 m, .pointer p, .string subj] 33)) w7 := HB8.out.trans (hb9.mono (by have := HB8.out.size; rw [size_pol] at this; exact this))
  clear q0 q1 q2 q3
  obtain ⟨q0, q1, q2, q3⟩ := pol_cells hb10
  have hB9 : Below w2.heap.size w2 w7 := HBB.out.trans (hb9.mono HBB.out.size)
  have HB9 := hide hB9
  clear hb9 hb10 hB9
  obtain ⟨N2, rfl⟩ := hv2 rfl
  clear hv1 hv2
  go_wp2_with fail
  refine (C11.out _).mono ?_
  rintro e w8 ⟨rfl, hw⟩
  subst hw
  go_wp2
  go_ret
  exact ⟨rfl, HB9.out⟩

set_option maxHeartbeats 2000000 in
theorem law1_neg (F : Interp) (c m now now2 : Int) (a : Option Addr) (n cap : Nat) (S : Nat → ByteArray) (subj id : ByteArray) (w : World) (hF : F.answers w.tape) (hE : Env w) (hR : Row w a n S) (ha : a = none → n = 0 ∧ cap = 0)
    (hnm : n ≤ maxLen) (hsm : subj.size ≤ maxLen) (him : id.size ≤ maxLen) (hc : -9223372036854775808 ≤ c) (hc2 : c ≤ 9223372036854775807) (hm : -9223372036854775808 ≤ m) (hm2 : m ≤ 9223372036854775807)
    (u : Nat) (h : Pl.sessNum id.data.toList = some u) (h0 : c < 0) :
    Calls Tryf.prog 3 #[.int .i64 c, .int .i64 m, .slice a n cap, .string subj, .string id, .int .i64 now, .int .i64 now2] w (Yes w) := by
  have hl : liveB c u m = false := by simp [liveB]; omega
  obtain ⟨_, _, hu, _, _, _, _⟩ := Pl.sess_some h
  have C11 := hide (fun w1 => sess_some_call id u w1 him h)
  have C12 := hide (fun w1 => live_of c u m w1 hc hc2 (by omega) (by omega) hm hm2 _ hl)
  have hL : liveAll c m n S id = false := by rw [liveAll_some h, hl]; rfl
  clear hl h
  have C5 := hide (bytes5_any c m a n cap S subj id now now2 w hnm hsm him hR)
  have C6 := hide (tooBig_any a n cap S subj id w hnm hsm him hR)
  have C7 := hide (sorted_any a n cap S w hnm hR)
  have C8 := hide (fun w1 (hb : Below w.heap.size w w1) (hn : n ≤ 1048576) => clone_any a n cap S w1 ha hn (hR.below hb))
  have C10 := hide (fun (x : Int) w1 (hb : Below w.heap.size w w1) (hn : n ≤ 1048576) (hi : id.size ≤ 1048576) p (hr : Rec w1 p n S) (hS : Pl.Sorted n S) => (live10_any F c m x p subj id n S w1 (by rw [hb.tape]; exact hF) hi hn (hE.below hb) hr hS hc hc2 hm hm2).mono (fun e w' h => h.ans))
  have C13 := hide (fun w1 (hb : Below w.heap.size w w1) => member_any a n cap S id w1 hnm (hR.below hb))
  rw [hL] at C10
  clear hF hE hR ha hnm hsm him hL
  go_enter Tryf.func3, Tryf.ntmps3
  go_wp2_with fail
  refine C5.out.mono ?_
  rintro e w1 ⟨r, rfl, hw, hr⟩
  subst hw
  cases r
  · go_wp2
    go_ret
    exact ⟨rfl, Below.refl _ _⟩
  obtain ⟨hn, hi⟩ := hr rfl
  clear hr
  go_wp2_with fail
  refine C6.out.mono ?_
  rintro e w2 ⟨r, rfl, hw⟩
  subst hw
  cases r
  rotate_left
  · go_wp2
    go_ret
    exact ⟨rfl, Below.refl _ _⟩
  go_wp2_with fail
  refine C7.out.mono ?_
  rintro e w3 ⟨r, q, rfl, hw, hS⟩
  have B3 : Below w2.heap.size w2 w3 := by rw [hw]; exact below_drewN (Below.refl _ _) q
  clear hw
  cases r
  · go_wp2
    go_ret
    exact ⟨rfl, B3⟩
  have HS := hide (hS rfl)
  clear hS
  go_wp2_with fail
  refine (C8.out _ B3 hn).mono ?_
  rintro e w4 ⟨a', c', rfl, hb4, hs4⟩
  have B4 : Below w2.heap.size w2 w4 := B3.trans (hb4.mono B3.size)
  have C9 := hide (newRevoked_any a' n c' S w4 hn hs4)
  clear hb4 B3 hs4
  go_wp2_with fail
  refine C9.out.mono ?_
  rintro e w5 ⟨p, rfl, hb5, hR5⟩
  have B5 : Below w2.heap.size w2 w5 := B4.trans (hb5.mono B4.size)
  clear hb5 B4 C9
  have B6 : Below w5.heap.size w5 (w5.alloc (.cells #[.int .i64 c, .int .i64 m, .pointer p, .string subj] 33)) := (Below.refl _ _).alloc (Nat.le_refl _) _
  have HR6 := hide (hR5.below B6)
  have B7 : Below w2.heap.size w2 (w5.alloc (.cells #[.int .i64 c, .int .i64 m, .pointer p, .string subj] 33)) := B5.trans (B6.mono B5.size)
  have HB7 := hide B7
  clear hR5 B6 B7
  go_wp2_with fail
  refine (C10.out now _ HB7.out hn hi p HR6.out HS.out).mono ?_
  rintro e w6 ⟨hv1, hv2, hb8⟩
  rw [size_pol] at hb8
  obtain ⟨q0, q1, q2, q3⟩ := pol_cells hb8
  have HB8 := hide hb8
  have hB8 : Below w2.heap.size w2 w6 := HB7.out.trans (hb8.mono (by have := B5.size; omega))
  have HBB := hide hB8
  have hR8 : Rec w6 p n S := HR6.out.below (by rw [size_pol]; exact hb8)
  have HR8 := hide hR8
  clear hb8 hB8 hR8
  obtain ⟨N1, rfl⟩ := hv2 rfl
  clear hv1 hv2
  go_wp2_with fail
  refine (C10.out now2 _ HBB.out hn hi p HR8.out HS.out).mono ?_
  rintro e w7 ⟨hv1, hv2, hb9⟩
  have hb10 : Below (w5.heap.size + 1) (w5.alloc (.cells #[.int .i64 c, .int .i64 m, .pointer p, .string subj] 33)) w7 := HB8.out.trans (hb9.mono (by have := HB8.out.size; rw [size_pol] at this; exact this))
  clear q0 q1 q2 q3
  obtain ⟨q0, q1, q2, q3⟩ := pol_cells hb10
  have hB9 : Below w2.heap.size w2 w7 := HBB.out.trans (hb9.mono HBB.out.size)
  have HB9 := hide hB9
  clear hb9 hb10 hB9
  obtain ⟨N2, rfl⟩ := hv2 rfl
  clear hv1 hv2
  go_wp2_with fail
  refine (C11.out _).mono ?_
  rintro e w8 ⟨rfl, hw⟩
  subst hw
  go_wp2_with fail
  refine (C12.out _).mono ?_
  rintro e w9 ⟨rfl, hw⟩
  subst hw
  go_wp2
  go_ret
  exact ⟨rfl, HB9.out⟩

set_option maxHeartbeats 2000000 in
theorem law1_far (F : Interp) (c m now now2 : Int) (a : Option Addr) (n cap : Nat) (S : Nat → ByteArray) (subj id : ByteArray) (w : World) (hF : F.answers w.tape) (hE : Env w) (hR : Row w a n S) (ha : a = none → n = 0 ∧ cap = 0)
    (hnm : n ≤ maxLen) (hsm : subj.size ≤ maxLen) (him : id.size ≤ maxLen) (hc : -9223372036854775808 ≤ c) (hc2 : c ≤ 9223372036854775807) (hm : -9223372036854775808 ≤ m) (hm2 : m ≤ 9223372036854775807)
    (u : Nat) (h : Pl.sessNum id.data.toList = some u) (h0 : 0 ≤ c) (h1 : c ≤ u) :
    Calls Tryf.prog 3 #[.int .i64 c, .int .i64 m, .slice a n cap, .string subj, .string id, .int .i64 now, .int .i64 now2] w (Yes w) := by
  have hl : liveB c u m = false := by simp [liveB]; omega
  obtain ⟨_, _, hu, _, _, _, _⟩ := Pl.sess_some h
  have C11 := hide (fun w1 => sess_some_call id u w1 him h)
  have C12 := hide (fun w1 => live_of c u m w1 hc hc2 (by omega) (by omega) hm hm2 _ hl)
  have hL : liveAll c m n S id = false := by rw [liveAll_some h, hl]; rfl
  clear hl h
  have C5 := hide (bytes5_any c m a n cap S subj id now now2 w hnm hsm him hR)
  have C6 := hide (tooBig_any a n cap S subj id w hnm hsm him hR)
  have C7 := hide (sorted_any a n cap S w hnm hR)
  have C8 := hide (fun w1 (hb : Below w.heap.size w w1) (hn : n ≤ 1048576) => clone_any a n cap S w1 ha hn (hR.below hb))
  have C10 := hide (fun (x : Int) w1 (hb : Below w.heap.size w w1) (hn : n ≤ 1048576) (hi : id.size ≤ 1048576) p (hr : Rec w1 p n S) (hS : Pl.Sorted n S) => (live10_any F c m x p subj id n S w1 (by rw [hb.tape]; exact hF) hi hn (hE.below hb) hr hS hc hc2 hm hm2).mono (fun e w' h => h.ans))
  have C13 := hide (fun w1 (hb : Below w.heap.size w w1) => member_any a n cap S id w1 hnm (hR.below hb))
  rw [hL] at C10
  clear hF hE hR ha hnm hsm him hL
  go_enter Tryf.func3, Tryf.ntmps3
  go_wp2_with fail
  refine C5.out.mono ?_
  rintro e w1 ⟨r, rfl, hw, hr⟩
  subst hw
  cases r
  · go_wp2
    go_ret
    exact ⟨rfl, Below.refl _ _⟩
  obtain ⟨hn, hi⟩ := hr rfl
  clear hr
  go_wp2_with fail
  refine C6.out.mono ?_
  rintro e w2 ⟨r, rfl, hw⟩
  subst hw
  cases r
  rotate_left
  · go_wp2
    go_ret
    exact ⟨rfl, Below.refl _ _⟩
  go_wp2_with fail
  refine C7.out.mono ?_
  rintro e w3 ⟨r, q, rfl, hw, hS⟩
  have B3 : Below w2.heap.size w2 w3 := by rw [hw]; exact below_drewN (Below.refl _ _) q
  clear hw
  cases r
  · go_wp2
    go_ret
    exact ⟨rfl, B3⟩
  have HS := hide (hS rfl)
  clear hS
  go_wp2_with fail
  refine (C8.out _ B3 hn).mono ?_
  rintro e w4 ⟨a', c', rfl, hb4, hs4⟩
  have B4 : Below w2.heap.size w2 w4 := B3.trans (hb4.mono B3.size)
  have C9 := hide (newRevoked_any a' n c' S w4 hn hs4)
  clear hb4 B3 hs4
  go_wp2_with fail
  refine C9.out.mono ?_
  rintro e w5 ⟨p, rfl, hb5, hR5⟩
  have B5 : Below w2.heap.size w2 w5 := B4.trans (hb5.mono B4.size)
  clear hb5 B4 C9
  have B6 : Below w5.heap.size w5 (w5.alloc (.cells #[.int .i64 c, .int .i64 m, .pointer p, .string subj] 33)) := (Below.refl _ _).alloc (Nat.le_refl _) _
  have HR6 := hide (hR5.below B6)
  have B7 : Below w2.heap.size w2 (w5.alloc (.cells #[.int .i64 c, .int .i64 m, .pointer p, .string subj] 33)) := B5.trans (B6.mono B5.size)
  have HB7 := hide B7
  clear hR5 B6 B7
  go_wp2_with fail
  refine (C10.out now _ HB7.out hn hi p HR6.out HS.out).mono ?_
  rintro e w6 ⟨hv1, hv2, hb8⟩
  rw [size_pol] at hb8
  obtain ⟨q0, q1, q2, q3⟩ := pol_cells hb8
  have HB8 := hide hb8
  have hB8 : Below w2.heap.size w2 w6 := HB7.out.trans (hb8.mono (by have := B5.size; omega))
  have HBB := hide hB8
  have hR8 : Rec w6 p n S := HR6.out.below (by rw [size_pol]; exact hb8)
  have HR8 := hide hR8
  clear hb8 hB8 hR8
  obtain ⟨N1, rfl⟩ := hv2 rfl
  clear hv1 hv2
  go_wp2_with fail
  refine (C10.out now2 _ HBB.out hn hi p HR8.out HS.out).mono ?_
  rintro e w7 ⟨hv1, hv2, hb9⟩
  have hb10 : Below (w5.heap.size + 1) (w5.alloc (.cells #[.int .i64 c, .int .i64 m, .pointer p, .string subj] 33)) w7 := HB8.out.trans (hb9.mono (by have := HB8.out.size; rw [size_pol] at this; exact this))
  clear q0 q1 q2 q3
  obtain ⟨q0, q1, q2, q3⟩ := pol_cells hb10
  have hB9 : Below w2.heap.size w2 w7 := HBB.out.trans (hb9.mono HBB.out.size)
  have HB9 := hide hB9
  clear hb9 hb10 hB9
  obtain ⟨N2, rfl⟩ := hv2 rfl
  clear hv1 hv2
  go_wp2_with fail
  refine (C11.out _).mono ?_
  rintro e w8 ⟨rfl, hw⟩
  subst hw
  go_wp2_with fail
  refine (C12.out _).mono ?_
  rintro e w9 ⟨rfl, hw⟩
  subst hw
  go_wp2
  go_ret
  exact ⟨rfl, HB9.out⟩

set_option maxHeartbeats 2000000 in
theorem law1_old (F : Interp) (c m now now2 : Int) (a : Option Addr) (n cap : Nat) (S : Nat → ByteArray) (subj id : ByteArray) (w : World) (hF : F.answers w.tape) (hE : Env w) (hR : Row w a n S) (ha : a = none → n = 0 ∧ cap = 0)
    (hnm : n ≤ maxLen) (hsm : subj.size ≤ maxLen) (him : id.size ≤ maxLen) (hc : -9223372036854775808 ≤ c) (hc2 : c ≤ 9223372036854775807) (hm : -9223372036854775808 ≤ m) (hm2 : m ≤ 9223372036854775807)
    (u : Nat) (h : Pl.sessNum id.data.toList = some u) (h0 : 0 ≤ c) (h1 : (u : Int) < c) (h2 : m < c - u) :
    Calls Tryf.prog 3 #[.int .i64 c, .int .i64 m, .slice a n cap, .string subj, .string id, .int .i64 now, .int .i64 now2] w (Yes w) := by
  have hl : liveB c u m = false := by simp [liveB]; omega
  obtain ⟨_, _, hu, _, _, _, _⟩ := Pl.sess_some h
  have C11 := hide (fun w1 => sess_some_call id u w1 him h)
  have C12 := hide (fun w1 => live_of c u m w1 hc hc2 (by omega) (by omega) hm hm2 _ hl)
  have hL : liveAll c m n S id = false := by rw [liveAll_some h, hl]; rfl
  clear hl h
  have C5 := hide (bytes5_any c m a n cap S subj id now now2 w hnm hsm him hR)
  have C6 := hide (tooBig_any a n cap S subj id w hnm hsm him hR)
  have C7 := hide (sorted_any a n cap S w hnm hR)
  have C8 := hide (fun w1 (hb : Below w.heap.size w w1) (hn : n ≤ 1048576) => clone_any a n cap S w1 ha hn (hR.below hb))
  have C10 := hide (fun (x : Int) w1 (hb : Below w.heap.size w w1) (hn : n ≤ 1048576) (hi : id.size ≤ 1048576) p (hr : Rec w1 p n S) (hS : Pl.Sorted n S) => (live10_any F c m x p subj id n S w1 (by rw [hb.tape]; exact hF) hi hn (hE.below hb) hr hS hc hc2 hm hm2).mono (fun e w' h => h.ans))
  have C13 := hide (fun w1 (hb : Below w.heap.size w w1) => member_any a n cap S id w1 hnm (hR.below hb))
  rw [hL] at C10
  clear hF hE hR ha hnm hsm him hL
  go_enter Tryf.func3, Tryf.ntmps3
  go_wp2_with fail
  refine C5.out.mono ?_
  rintro e w1 ⟨r, rfl, hw, hr⟩
  subst hw
  cases r
  · go_wp2
    go_ret
    exact ⟨rfl, Below.refl _ _⟩
  obtain ⟨hn, hi⟩ := hr rfl
  clear hr
  go_wp2_with fail
  refine C6.out.mono ?_
  rintro e w2 ⟨r, rfl, hw⟩
  subst hw
  cases r
  rotate_left
  · go_wp2
    go_ret
    exact ⟨rfl, Below.refl _ _⟩
  go_wp2_with fail
  refine C7.out.mono ?_
  rintro e w3 ⟨r, q, rfl, hw, hS⟩
  have B3 : Below w2.heap.size w2 w3 := by rw [hw]; exact below_drewN (Below.refl _ _) q
  clear hw
  cases r
  · go_wp2
    go_ret
    exact ⟨rfl, B3⟩
  have HS := hide (hS rfl)
  clear hS
  go_wp2_with fail
  refine (C8.out _ B3 hn).mono ?_
  rintro e w4 ⟨a', c', rfl, hb4, hs4⟩
  have B4 : Below w2.heap.size w2 w4 := B3.trans (hb4.mono B3.size)
  have C9 := hide (newRevoked_any a' n c' S w4 hn hs4)
  clear hb4 B3 hs4
  go_wp2_with fail
  refine C9.out.mono ?_
  rintro e w5 ⟨p, rfl, hb5, hR5⟩
  have B5 : Below w2.heap.size w2 w5 := B4.trans (hb5.mono B4.size)
  clear hb5 B4 C9
  have B6 : Below w5.heap.size w5 (w5.alloc (.cells #[.int .i64 c, .int .i64 m, .pointer p, .string subj] 33)) := (Below.refl _ _).alloc (Nat.le_refl _) _
  have HR6 := hide (hR5.below B6)
  have B7 : Below w2.heap.size w2 (w5.alloc (.cells #[.int .i64 c, .int .i64 m, .pointer p, .string subj] 33)) := B5.trans (B6.mono B5.size)
  have HB7 := hide B7
  clear hR5 B6 B7
  go_wp2_with fail
  refine (C10.out now _ HB7.out hn hi p HR6.out HS.out).mono ?_
  rintro e w6 ⟨hv1, hv2, hb8⟩
  rw [size_pol] at hb8
  obtain ⟨q0, q1, q2, q3⟩ := pol_cells hb8
  have HB8 := hide hb8
  have hB8 : Below w2.heap.size w2 w6 := HB7.out.trans (hb8.mono (by have := B5.size; omega))
  have HBB := hide hB8
  have hR8 : Rec w6 p n S := HR6.out.below (by rw [size_pol]; exact hb8)
  have HR8 := hide hR8
  clear hb8 hB8 hR8
  obtain ⟨N1, rfl⟩ := hv2 rfl
  clear hv1 hv2
  go_wp2_with fail
  refine (C10.out now2 _ HBB.out hn hi p HR8.out HS.out).mono ?_
  rintro e w7 ⟨hv1, hv2, hb9⟩
  have hb10 : Below (w5.heap.size + 1) (w5.alloc (.cells #[.int .i64 c, .int .i64 m, .pointer p, .string subj] 33)) w7 := HB8.out.trans (hb9.mono (by have := HB8.out.size; rw [size_pol] at this; exact this))
  clear q0 q1 q2 q3
  obtain ⟨q0, q1, q2, q3⟩ := pol_cells hb10
  have hB9 : Below w2.heap.size w2 w7 := HBB.out.trans (hb9.mono HBB.out.size)
  have HB9 := hide hB9
  clear hb9 hb10 hB9
  obtain ⟨N2, rfl⟩ := hv2 rfl
  clear hv1 hv2
  go_wp2_with fail
  refine (C11.out _).mono ?_
  rintro e w8 ⟨rfl, hw⟩
  subst hw
  go_wp2_with fail
  refine (C12.out _).mono ?_
  rintro e w9 ⟨rfl, hw⟩
  subst hw
  go_wp2
  go_ret
  exact ⟨rfl, HB9.out⟩

set_option maxHeartbeats 2000000 in
theorem law1_in (F : Interp) (c m now now2 : Int) (a : Option Addr) (n cap : Nat) (S : Nat → ByteArray) (subj id : ByteArray) (w : World) (hF : F.answers w.tape) (hE : Env w) (hR : Row w a n S) (ha : a = none → n = 0 ∧ cap = 0)
    (hnm : n ≤ maxLen) (hsm : subj.size ≤ maxLen) (him : id.size ≤ maxLen) (hc : -9223372036854775808 ≤ c) (hc2 : c ≤ 9223372036854775807) (hm : -9223372036854775808 ≤ m) (hm2 : m ≤ 9223372036854775807)
    (u : Nat) (h : Pl.sessNum id.data.toList = some u) (h0 : 0 ≤ c) (h1 : (u : Int) < c) (h2 : c - u ≤ m) (hmem : Pl.member n S id = false) :
    Calls Tryf.prog 3 #[.int .i64 c, .int .i64 m, .slice a n cap, .string subj, .string id, .int .i64 now, .int .i64 now2] w (Yes w) := by
  have hl : liveB c u m = true := by simp [liveB]; omega
  obtain ⟨_, _, hu, _, _, _, _⟩ := Pl.sess_some h
  have C11 := hide (fun w1 => sess_some_call id u w1 him h)
  have C12 := hide (fun w1 => live_of c u m w1 hc hc2 (by omega) (by omega) hm hm2 _ hl)
  have hL : liveAll c m n S id = true := by rw [liveAll_some h, hl, hmem]; rfl
  have HM := hide hmem
  clear hl h hmem
  have C5 := hide (bytes5_any c m a n cap S subj id now now2 w hnm hsm him hR)
  have C6 := hide (tooBig_any a n cap S subj id w hnm hsm him hR)
  have C7 := hide (sorted_any a n cap S w hnm hR)
  have C8 := hide (fun w1 (hb : Below w.heap.size w w1) (hn : n ≤ 1048576) => clone_any a n cap S w1 ha hn (hR.below hb))
  have C10 := hide (fun (x : Int) w1 (hb : Below w.heap.size w w1) (hn : n ≤ 1048576) (hi : id.size ≤ 1048576) p (hr : Rec w1 p n S) (hS : Pl.Sorted n S) => (live10_any F c m x p subj id n S w1 (by rw [hb.tape]; exact hF) hi hn (hE.below hb) hr hS hc hc2 hm hm2).mono (fun e w' h => h.ans))
  have C13 := hide (fun w1 (hb : Below w.heap.size w w1) => member_any a n cap S id w1 hnm (hR.below hb))
  rw [hL] at C10
  clear hF hE hR ha hnm hsm him hL
  go_enter Tryf.func3, Tryf.ntmps3
  go_wp2_with fail
  refine C5.out.mono ?_
  rintro e w1 ⟨r, rfl, hw, hr⟩
  subst hw
  cases r
  · go_wp2
    go_ret
    exact ⟨rfl, Below.refl _ _⟩
  obtain ⟨hn, hi⟩ := hr rfl
  clear hr
  go_wp2_with fail
  refine C6.out.mono ?_
  rintro e w2 ⟨r, rfl, hw⟩
  subst hw
  cases r
  rotate_left
  · go_wp2
    go_ret
    exact ⟨rfl, Below.refl _ _⟩
  go_wp2_with fail
  refine C7.out.mono ?_
  rintro e w3 ⟨r, q, rfl, hw, hS⟩
  have B3 : Below w2.heap.size w2 w3 := by rw [hw]; exact below_drewN (Below.refl _ _) q
  clear hw
  cases r
  · go_wp2
    go_ret
    exact ⟨rfl, B3⟩
  have HS := hide (hS rfl)
  clear hS
  go_wp2_with fail
  refine (C8.out _ B3 hn).mono ?_
  rintro e w4 ⟨a', c', rfl, hb4, hs4⟩
  have B4 : Below w2.heap.size w2 w4 := B3.trans (hb4.mono B3.size)
  have C9 := hide (newRevoked_any a' n c' S w4 hn hs4)
  clear hb4 B3 hs4
  go_wp2_with fail
  refine C9.out.mono ?_
  rintro e w5 ⟨p, rfl, hb5, hR5⟩
  have B5 : Below w2.heap.size w2 w5 := B4.trans (hb5.mono B4.size)
  clear hb5 B4 C9
  have B6 : Below w5.heap.size w5 (w5.alloc (.cells #[.int .i64 c, .int .i64 m, .pointer p, .string subj] 33)) := (Below.refl _ _).alloc (Nat.le_refl _) _
  have HR6 := hide (hR5.below B6)
  have B7 : Below w2.heap.size w2 (w5.alloc (.cells #[.int .i64 c, .int .i64 m, .pointer p, .string subj] 33)) := B5.trans (B6.mono B5.size)
  have HB7 := hide B7
  clear hR5 B6 B7
  go_wp2_with fail
  refine (C10.out now _ HB7.out hn hi p HR6.out HS.out).mono ?_
  rintro e w6 ⟨hv1, hv2, hb8⟩
  rw [size_pol] at hb8
  obtain ⟨q0, q1, q2, q3⟩ := pol_cells hb8
  have HB8 := hide hb8
  have hB8 : Below w2.heap.size w2 w6 := HB7.out.trans (hb8.mono (by have := B5.size; omega))
  have HBB := hide hB8
  have hR8 : Rec w6 p n S := HR6.out.below (by rw [size_pol]; exact hb8)
  have HR8 := hide hR8
  clear hb8 hB8 hR8
  obtain rfl := hv1 rfl
  clear hv1 hv2
  go_wp2_with fail
  refine (C10.out now2 _ HBB.out hn hi p HR8.out HS.out).mono ?_
  rintro e w7 ⟨hv1, hv2, hb9⟩
  have hb10 : Below (w5.heap.size + 1) (w5.alloc (.cells #[.int .i64 c, .int .i64 m, .pointer p, .string subj] 33)) w7 := HB8.out.trans (hb9.mono (by have := HB8.out.size; rw [size_pol] at this; exact this))
  clear q0 q1 q2 q3
  obtain ⟨q0, q1, q2, q3⟩ := pol_cells hb10
  have hB9 : Below w2.heap.size w2 w7 := HBB.out.trans (hb9.mono HBB.out.size)
  have HB9 := hide hB9
  clear hb9 hb10 hB9
  obtain rfl := hv1 rfl
  clear hv1 hv2
  go_wp2_with fail
  refine (C11.out _).mono ?_
  rintro e w8 ⟨rfl, hw⟩
  subst hw
  go_wp2_with fail
  refine (C12.out _).mono ?_
  rintro e w9 ⟨rfl, hw⟩
  subst hw
  go_wp2_with fail
  refine (C13.out _ HB9.out).mono ?_
  rintro e w10 ⟨he, hw⟩
  rw [HM.out] at he
  subst he
  subst hw
  go_wp2
  go_ret
  exact ⟨rfl, HB9.out⟩

set_option maxHeartbeats 2000000 in
theorem law1_rev (F : Interp) (c m now now2 : Int) (a : Option Addr) (n cap : Nat) (S : Nat → ByteArray) (subj id : ByteArray) (w : World) (hF : F.answers w.tape) (hE : Env w) (hR : Row w a n S) (ha : a = none → n = 0 ∧ cap = 0)
    (hnm : n ≤ maxLen) (hsm : subj.size ≤ maxLen) (him : id.size ≤ maxLen) (hc : -9223372036854775808 ≤ c) (hc2 : c ≤ 9223372036854775807) (hm : -9223372036854775808 ≤ m) (hm2 : m ≤ 9223372036854775807)
    (u : Nat) (h : Pl.sessNum id.data.toList = some u) (h0 : 0 ≤ c) (h1 : (u : Int) < c) (h2 : c - u ≤ m) (hmem : Pl.member n S id = true) :
    Calls Tryf.prog 3 #[.int .i64 c, .int .i64 m, .slice a n cap, .string subj, .string id, .int .i64 now, .int .i64 now2] w (Yes w) := by
  have hl : liveB c u m = true := by simp [liveB]; omega
  obtain ⟨_, _, hu, _, _, _, _⟩ := Pl.sess_some h
  have C11 := hide (fun w1 => sess_some_call id u w1 him h)
  have C12 := hide (fun w1 => live_of c u m w1 hc hc2 (by omega) (by omega) hm hm2 _ hl)
  have hL : liveAll c m n S id = false := by rw [liveAll_some h, hl, hmem]; rfl
  have HM := hide hmem
  clear hl h hmem
  have C5 := hide (bytes5_any c m a n cap S subj id now now2 w hnm hsm him hR)
  have C6 := hide (tooBig_any a n cap S subj id w hnm hsm him hR)
  have C7 := hide (sorted_any a n cap S w hnm hR)
  have C8 := hide (fun w1 (hb : Below w.heap.size w w1) (hn : n ≤ 1048576) => clone_any a n cap S w1 ha hn (hR.below hb))
  have C10 := hide (fun (x : Int) w1 (hb : Below w.heap.size w w1) (hn : n ≤ 1048576) (hi : id.size ≤ 1048576) p (hr : Rec w1 p n S) (hS : Pl.Sorted n S) => (live10_any F c m x p subj id n S w1 (by rw [hb.tape]; exact hF) hi hn (hE.below hb) hr hS hc hc2 hm hm2).mono (fun e w' h => h.ans))
  have C13 := hide (fun w1 (hb : Below w.heap.size w w1) => member_any a n cap S id w1 hnm (hR.below hb))
  rw [hL] at C10
  clear hF hE hR ha hnm hsm him hL
  go_enter Tryf.func3, Tryf.ntmps3
  go_wp2_with fail
  refine C5.out.mono ?_
  rintro e w1 ⟨r, rfl, hw, hr⟩
  subst hw
  cases r
  · go_wp2
    go_ret
    exact ⟨rfl, Below.refl _ _⟩
  obtain ⟨hn, hi⟩ := hr rfl
  clear hr
  go_wp2_with fail
  refine C6.out.mono ?_
  rintro e w2 ⟨r, rfl, hw⟩
  subst hw
  cases r
  rotate_left
  · go_wp2
    go_ret
    exact ⟨rfl, Below.refl _ _⟩
  go_wp2_with fail
  refine C7.out.mono ?_
  rintro e w3 ⟨r, q, rfl, hw, hS⟩
  have B3 : Below w2.heap.size w2 w3 := by rw [hw]; exact below_drewN (Below.refl _ _) q
  clear hw
  cases r
  · go_wp2
    go_ret
    exact ⟨rfl, B3⟩
  have HS := hide (hS rfl)
  clear hS
  go_wp2_with fail
  refine (C8.out _ B3 hn).mono ?_
  rintro e w4 ⟨a', c', rfl, hb4, hs4⟩
  have B4 : Below w2.heap.size w2 w4 := B3.trans (hb4.mono B3.size)
  have C9 := hide (newRevoked_any a' n c' S w4 hn hs4)
  clear hb4 B3 hs4
  go_wp2_with fail
  refine C9.out.mono ?_
  rintro e w5 ⟨p, rfl, hb5, hR5⟩
  have B5 : Below w2.heap.size w2 w5 := B4.trans (hb5.mono B4.size)
  clear hb5 B4 C9
  have B6 : Below w5.heap.size w5 (w5.alloc (.cells #[.int .i64 c, .int .i64 m, .pointer p, .string subj] 33)) := (Below.refl _ _).alloc (Nat.le_refl _) _
  have HR6 := hide (hR5.below B6)
  have B7 : Below w2.heap.size w2 (w5.alloc (.cells #[.int .i64 c, .int .i64 m, .pointer p, .string subj] 33)) := B5.trans (B6.mono B5.size)
  have HB7 := hide B7
  clear hR5 B6 B7
  go_wp2_with fail
  refine (C10.out now _ HB7.out hn hi p HR6.out HS.out).mono ?_
  rintro e w6 ⟨hv1, hv2, hb8⟩
  rw [size_pol] at hb8
  obtain ⟨q0, q1, q2, q3⟩ := pol_cells hb8
  have HB8 := hide hb8
  have hB8 : Below w2.heap.size w2 w6 := HB7.out.trans (hb8.mono (by have := B5.size; omega))
  have HBB := hide hB8
  have hR8 : Rec w6 p n S := HR6.out.below (by rw [size_pol]; exact hb8)
  have HR8 := hide hR8
  clear hb8 hB8 hR8
  obtain ⟨N1, rfl⟩ := hv2 rfl
  clear hv1 hv2
  go_wp2_with fail
  refine (C10.out now2 _ HBB.out hn hi p HR8.out HS.out).mono ?_
  rintro e w7 ⟨hv1, hv2, hb9⟩
  have hb10 : Below (w5.heap.size + 1) (w5.alloc (.cells #[.int .i64 c, .int .i64 m, .pointer p, .string subj] 33)) w7 := HB8.out.trans (hb9.mono (by have := HB8.out.size; rw [size_pol] at this; exact this))
  clear q0 q1 q2 q3
  obtain ⟨q0, q1, q2, q3⟩ := pol_cells hb10
  have hB9 : Below w2.heap.size w2 w7 := HBB.out.trans (hb9.mono HBB.out.size)
  have HB9 := hide hB9
  clear hb9 hb10 hB9
  obtain ⟨N2, rfl⟩ := hv2 rfl
  clear hv1 hv2
  go_wp2_with fail
  refine (C11.out _).mono ?_
  rintro e w8 ⟨rfl, hw⟩
  subst hw
  go_wp2_with fail
  refine (C12.out _).mono ?_
  rintro e w9 ⟨rfl, hw⟩
  subst hw
  go_wp2_with fail
  refine (C13.out _ HB9.out).mono ?_
  rintro e w10 ⟨he, hw⟩
  rw [HM.out] at he
  subst he
  subst hw
  go_wp2
  go_ret
  exact ⟨rfl, HB9.out⟩

end Go.Proofs.Qxb6615671aFmt
