/-
  Walks: the policy asked for an id.
-/
import Derived.Test.Qxb6615671aFmtWalks6
namespace Go.Proofs.Qxb6615671aFmt
open Go.RowKit Go.Extern.Stop Go.Stop Go.Extern

/-- The policy's block. -/
def polO (c m : Int) (p : Option Addr) (subj : ByteArray) : Obj := .cells #[.int .i64 c, .int .i64 m, .pointer p, .string subj] 33

theorem pol_cells {w w1 : World} {c m : Int} {p : Option Addr} {subj : ByteArray} (hb : Below (w.heap.size + 1) (w.alloc (.cells #[.int .i64 c, .int .i64 m, .pointer p, .string subj] 33)) w1) :
    w1.cell? ⟨w.heap.size, 0, none⟩ = some (.int .i64 c) ∧ w1.cell? ⟨w.heap.size, 1, none⟩ = some (.int .i64 m) ∧ w1.cell? ⟨w.heap.size, 2, none⟩ = some (.pointer p) ∧ w1.cell? ⟨w.heap.size, 3, none⟩ = some (.string subj) := by
  refine ⟨?_, ?_, ?_, ?_⟩ <;> rw [hb.cell (by simp), World.cell?_alloc_at _ _ _ _ rfl] <;> rfl

theorem below_pol {w w1 : World} {o : Obj} (hb : Below (w.heap.size + 1) (w.alloc o) w1) : Below w.heap.size w w1 :=
  ((Below.refl w.heap.size w).alloc (Nat.le_refl _) o).trans (hb.mono (by omega))

theorem size_pol (w : World) (o : Obj) : (w.alloc o).heap.size = w.heap.size + 1 := by simp

set_option maxHeartbeats 1000000 in
theorem pol_empty (c m now : Int) (p : Option Addr) (subj : ByteArray) (w : World) :
    Calls Tryf.prog 18 #[.agg #[.int .i64 c, .int .i64 m, .pointer p, .string subj], .string ⟨#[]⟩, .int .i64 now] w fun e w' => ∃ v, e = .returned v ∧ Refused w w' v noID := by
  have hb0 : Below w.heap.size w (w.alloc (.cells #[.int .i64 c, .int .i64 m, .pointer p, .string subj] 33)) := (Below.refl _ _).alloc (Nat.le_refl _) _
  have HB := hide hb0
  clear hb0
  go_enter Tryf.func18, Tryf.ntmps18
  go_wp2_with fail
  refine (number_empty _).mono ?_
  rintro e w1 ⟨v, rfl, N, rfl, hN⟩
  go_wp2
  go_ret
  exact ⟨_, rfl, Refused.cast ⟨N, rfl, hN⟩ HB.out⟩

set_option maxHeartbeats 1000000 in
theorem pol_bad (F : Interp) (c m now : Int) (p : Option Addr) (subj id : ByteArray) (w : World) (hF : F.answers w.tape) (hs : id.size ≤ 1048576) (hpos : 0 < id.size) (hE : Env w) (h : Pl.sessNum id.data.toList = none) :
    Calls Tryf.prog 18 #[.agg #[.int .i64 c, .int .i64 m, .pointer p, .string subj], .string id, .int .i64 now] w (Refusal w) := by
  have hb0 : Below w.heap.size w (w.alloc (.cells #[.int .i64 c, .int .i64 m, .pointer p, .string subj] 33)) := (Below.refl _ _).alloc (Nat.le_refl _) _
  have HB := hide hb0
  have cN := number_bad F id (w.alloc (.cells #[.int .i64 c, .int .i64 m, .pointer p, .string subj] 33)) hF hs hpos (hE.below hb0) h
  have CN := hide cN
  clear hb0 hF hE cN
  go_enter Tryf.func18, Tryf.ntmps18
  go_wp2_with fail
  refine CN.out.mono ?_
  rintro e w1 ⟨v, r, rfl, N, rfl, hN⟩
  go_wp2
  go_ret
  exact ⟨_, r, rfl, Refused.cast ⟨N, rfl, hN⟩ HB.out⟩

theorem digit_bytes {s : ByteArray} (h : ∀ c ∈ s.data.toList, 48 ≤ c.toNat ∧ c.toNat ≤ 57) : ∀ (k : Nat) (hk : k < s.size), s[k].toNat < 128 := fun k hk => by
  have hm : s[k] ∈ s.data.toList := by
    have hd := drop_cons s k hk
    have : s[k] ∈ s.data.toList.drop k := by rw [hd]; simp
    exact List.mem_of_mem_drop this
  have := h _ hm
  omega

/-- "the subject is locked" -/
def lockedR : ByteArray := ⟨#[116, 104, 101, 32, 115, 117, 98, 106, 101, 99, 116, 32, 105, 115, 32, 108, 111, 99, 107, 101, 100]⟩

set_option maxHeartbeats 1000000 in
/-- A session number while the subject is locked. -/
theorem pol_locked (c m now : Int) (p : Option Addr) (subj id : ByteArray) (u : Nat) (w : World) (hs : id.size ≤ 1048576) (hE : Env w) (h : Pl.sessNum id.data.toList = some u)
    (hc : -9223372036854775808 ≤ c) (hc0 : c < 0) (hm : -9223372036854775808 ≤ m) (hm2 : m ≤ 9223372036854775807) :
    Calls Tryf.prog 18 #[.agg #[.int .i64 c, .int .i64 m, .pointer p, .string subj], .string id, .int .i64 now] w fun e w' => ∃ v, e = .returned v ∧ Refused w w' v lockedR := by
  have hb0 : Below w.heap.size w (w.alloc (.cells #[.int .i64 c, .int .i64 m, .pointer p, .string subj] 33)) := (Below.refl _ _).alloc (Nat.le_refl _) _
  have cN := number_ok id u (w.alloc (.cells #[.int .i64 c, .int .i64 m, .pointer p, .string subj] 33)) hs (hE.below hb0) h
  rw [size_pol] at cN
  obtain ⟨_, _, hu, _, _, _, _⟩ := Pl.sess_some h
  have cL : ∀ w1 : World, Calls Tryf.prog 12 #[.int .i64 c, .int .i64 u, .int .i64 m] w1 fun e w' => e = .returned (.bool false) ∧ w' = w1 := fun w1 => by
    have := live_any c u m w1 hc (by omega) (by omega) (by omega) hm hm2
    rwa [liveB_neg hc0] at this
  have CN := hide cN
  have CL := hide cL
  clear hb0 hE cN cL
  go_enter Tryf.func18, Tryf.ntmps18
  go_wp2_with fail
  refine CN.out.mono ?_
  rintro e w1 ⟨rfl, hb1⟩
  obtain ⟨q0, q1, q2, q3⟩ := pol_cells hb1
  have HB := hide (below_pol hb1)
  clear hb1
  go_wp2_with fail
  refine (CL.out _).mono ?_
  rintro e w2 ⟨rfl, rfl⟩
  go_wp2_with fail
  refine (locked_neg _ _ hc0).mono ?_
  rintro e w2 ⟨rfl, rfl⟩
  go_wp2
  go_ret
  exact ⟨_, rfl, refused_new HB.out rfl⟩

set_option maxHeartbeats 1000000 in
/-- A session number in the window: what the record says. -/
theorem pol_in (c m now : Int) (p : Option Addr) (subj id : ByteArray) (u : Nat) (w : World) (Q : World → Ending → World → Prop) (hs : id.size ≤ 1048576) (hE : Env w) (h : Pl.sessNum id.data.toList = some u)
    (hc : -9223372036854775808 ≤ c) (hc2 : c ≤ 9223372036854775807) (hm : -9223372036854775808 ≤ m) (hm2 : m ≤ 9223372036854775807) (hl : liveB c u m = true)
    (cR : ∀ w1, Below w.heap.size w w1 → Calls Tryf.prog 21 #[.agg #[.pointer p], .string id, .int .i64 now] w1 (Q w1))
    (hQ : ∀ w1 e w', Below w.heap.size w w1 → Q w1 e w' → ∃ v, e = .returned v ∧ (v = .nilIface ∨ ∃ t x, v = .iface t x) ∧ Q w (.returned v) w') :
    Calls Tryf.prog 18 #[.agg #[.int .i64 c, .int .i64 m, .pointer p, .string subj], .string id, .int .i64 now] w (Q w) := by
  have hb0 : Below w.heap.size w (w.alloc (.cells #[.int .i64 c, .int .i64 m, .pointer p, .string subj] 33)) := (Below.refl _ _).alloc (Nat.le_refl _) _
  have cN := number_ok id u (w.alloc (.cells #[.int .i64 c, .int .i64 m, .pointer p, .string subj] 33)) hs (hE.below hb0) h
  rw [size_pol] at cN
  obtain ⟨_, _, hu, _, _, _, _⟩ := Pl.sess_some h
  have cL : ∀ w1 : World, Calls Tryf.prog 12 #[.int .i64 c, .int .i64 u, .int .i64 m] w1 fun e w' => e = .returned (.bool true) ∧ w' = w1 := fun w1 => by
    have := live_any c u m w1 hc hc2 (by omega) (by omega) hm hm2
    rwa [hl] at this
  have CN := hide cN
  have CL := hide cL
  have CR := hide cR
  have HQ := hide hQ
  clear hb0 hE cN cL cR hQ hl
  go_enter Tryf.func18, Tryf.ntmps18
  go_wp2_with fail
  refine CN.out.mono ?_
  rintro e w1 ⟨rfl, hb1⟩
  obtain ⟨q0, q1, q2, q3⟩ := pol_cells hb1
  have HB := hide (below_pol hb1)
  clear hb1
  go_wp2_with fail
  refine (CL.out _).mono ?_
  rintro e w2 ⟨rfl, rfl⟩
  go_wp2_with fail
  refine (CR.out _ HB.out).mono ?_
  rintro e w3 hq
  obtain ⟨v, rfl, hv, hq'⟩ := HQ.out _ _ _ HB.out hq
  have HQ' := hide hq'
  clear hq hq'
  rcases hv with rfl | ⟨t, x, rfl⟩
  · go_wp2
    exact HQ'.out
  · go_wp2
    exact HQ'.out

theorem refusal_two {w W : World} {r : ByteArray} {N : Nat} {e : Ending} (he : e = .returned (.iface 48 (.pointer (some ⟨N, 0, none⟩)))) (hb : Below w.heap.size w W) (hN : N = W.heap.size) : Refusal w e (W.alloc (.cells #[.string r] 51)).drew.drew :=
  ⟨_, r, he, (refused_new hb hN).drew.drew⟩

attribute [local go_sem] Tryf.call22 Tryf.guard Tryf.fmtC Tryf.fmtCr Tryf.op2_100
set_option maxHeartbeats 1000000 in
/-- A session number out of the window. -/
theorem pol_out (F : Interp) (c m now : Int) (p : Option Addr) (subj id : ByteArray) (u : Nat) (w : World) (hF : F.answers w.tape) (hs : id.size ≤ 1048576) (hE : Env w) (h : Pl.sessNum id.data.toList = some u)
    (hc0 : 0 ≤ c) (hc2 : c ≤ 9223372036854775807) (hm : -9223372036854775808 ≤ m) (hm2 : m ≤ 9223372036854775807) (hl : liveB c u m = false) :
    Calls Tryf.prog 18 #[.agg #[.int .i64 c, .int .i64 m, .pointer p, .string subj], .string id, .int .i64 now] w (Refusal w) := by
  have hb0 : Below w.heap.size w (w.alloc (.cells #[.int .i64 c, .int .i64 m, .pointer p, .string subj] 33)) := (Below.refl _ _).alloc (Nat.le_refl _) _
  have cN := number_ok id u (w.alloc (.cells #[.int .i64 c, .int .i64 m, .pointer p, .string subj] 33)) hs (hE.below hb0) h
  rw [size_pol] at cN
  obtain ⟨_, _, hu, _, _, _, _⟩ := Pl.sess_some h
  have cL : ∀ w1 : World, Calls Tryf.prog 12 #[.int .i64 c, .int .i64 u, .int .i64 m] w1 fun e w' => e = .returned (.bool false) ∧ w' = w1 := fun w1 => by
    have := live_any c u m w1 (by omega) hc2 (by omega) (by omega) hm hm2
    rwa [hl] at this
  have CN := hide cN
  have CL := hide cL
  have HF := hide hF
  clear hb0 hE cN cL hl hF
  go_enter Tryf.func18, Tryf.ntmps18
  go_wp2_with fail
  refine CN.out.mono ?_
  rintro e w1 ⟨rfl, hb1⟩
  obtain ⟨q0, q1, q2, q3⟩ := pol_cells hb1
  have HB := hide (below_pol hb1)
  clear hb1
  go_wp2_with fail
  refine (CL.out _).mono ?_
  rintro e w2 ⟨rfl, rfl⟩
  go_wp2_with fail
  refine (locked_pos _ _ hc0).mono ?_
  rintro e w2 ⟨rfl, rfl⟩
  have hF1 : F.answers w2.tape := by rw [HB.out.tape]; exact HF.out
  have hF' := answers_open hF1
  go_wp2
  go_region_with (go_at_call 19; refine (issued_pos _ _ hc0).mono ?_; rintro e w3 ⟨rfl, rfl⟩)
  all_goals go_wp2
  all_goals go_ret
  all_goals exact refusal_two (N := w2.heap.size + 1) rfl (HB.out.alloc HB.out.size _) (by simp)

/-- Does the policy hold the id live? -/
def liveAll (c m : Int) (n : Nat) (S : Nat → ByteArray) (id : ByteArray) : Bool :=
  match Pl.sessNum id.data.toList with
  | some u => liveB c u m && !Pl.member n S id
  | none => false

theorem liveAll_none {c m : Int} {n : Nat} {S : Nat → ByteArray} {id : ByteArray} (h : Pl.sessNum id.data.toList = none) : liveAll c m n S id = false := by unfold liveAll; rw [h]
theorem liveAll_some {c m : Int} {n : Nat} {S : Nat → ByteArray} {id : ByteArray} {u : Nat} (h : Pl.sessNum id.data.toList = some u) : liveAll c m n S id = (liveB c u m && !Pl.member n S id) := by unfold liveAll; rw [h]

/-- What the policy answers: nil, or a refusal with its reason. -/
def LivePost (c m : Int) (n : Nat) (S : Nat → ByteArray) (id : ByteArray) (w : World) (e : Ending) (w' : World) : Prop :=
  (liveAll c m n S id = true ∧ e = .returned .nilIface ∧ Below w.heap.size w w') ∨
  (liveAll c m n S id = false ∧ ∃ v r, e = .returned v ∧ Refused w w' v r ∧ (id.size = 0 → r = noID) ∧ (c < 0 → (Pl.sessNum id.data.toList).isSome = true → r = lockedR))

theorem LivePost.cast {c m : Int} {n : Nat} {S : Nat → ByteArray} {id : ByteArray} {w W : World} {e : Ending} {w' : World} (h : LivePost c m n S id W e w') (hb : Below w.heap.size w W) : LivePost c m n S id w e w' := by
  rcases h with ⟨h1, h2, h3⟩ | ⟨h1, v, r, h2, h3, h4, h5⟩
  · exact Or.inl ⟨h1, h2, hb.trans (h3.mono hb.size)⟩
  · exact Or.inr ⟨h1, v, r, h2, h3.cast hb, h4, h5⟩

def NilPost (w : World) (e : Ending) (w' : World) : Prop := e = .returned .nilIface ∧ Below w.heap.size w w'

theorem pol_any (F : Interp) (c m now : Int) (p : Option Addr) (subj id : ByteArray) (n : Nat) (S : Nat → ByteArray) (w : World) (hF : F.answers w.tape) (hs : id.size ≤ 1048576) (hn : n ≤ 1048576) (hE : Env w) (hR : Rec w p n S) (hS : Pl.Sorted n S)
    (hc : -9223372036854775808 ≤ c) (hc2 : c ≤ 9223372036854775807) (hm : -9223372036854775808 ≤ m) (hm2 : m ≤ 9223372036854775807) :
    Calls Tryf.prog 18 #[.agg #[.int .i64 c, .int .i64 m, .pointer p, .string subj], .string id, .int .i64 now] w (LivePost c m n S id w) := by
  cases h : Pl.sessNum id.data.toList with
  | none =>
    by_cases h0 : id.size = 0
    · obtain rfl : id = ⟨#[]⟩ := by
        apply ba_ext
        rw [Lib.toList_data, Lib.toList_data]
        have := Lib.size_eq id
        exact List.length_eq_zero_iff.1 (by omega)
      refine (pol_empty c m now p subj w).mono ?_
      rintro e w' ⟨v, rfl, hv⟩
      exact Or.inr ⟨liveAll_none h, v, noID, rfl, hv, fun _ => rfl, fun _ hx => by rw [h] at hx; cases hx⟩
    · refine (pol_bad F c m now p subj id w hF hs (by omega) hE h).mono ?_
      rintro e w' ⟨v, r, rfl, hv⟩
      exact Or.inr ⟨liveAll_none h, v, r, rfl, hv, fun hx => absurd hx h0, fun _ hx => by rw [h] at hx; cases hx⟩
  | some u =>
    obtain ⟨hne, hlen, hu, _, _, _, hd⟩ := Pl.sess_some h
    have hpos : id.size ≠ 0 := fun e => hne (List.length_eq_zero_iff.1 (by rw [← Lib.size_eq]; exact e))
    by_cases hc0 : c < 0
    · refine (pol_locked c m now p subj id u w hs hE h hc hc0 hm hm2).mono ?_
      rintro e w' ⟨v, rfl, hv⟩
      exact Or.inr ⟨by rw [liveAll_some h, liveB_neg hc0]; rfl, v, lockedR, rfl, hv, fun hx => absurd hx hpos, fun _ _ => rfl⟩
    · cases hl : liveB c u m with
      | false =>
        refine (pol_out F c m now p subj id u w hF hs hE h (by omega) hc2 hm hm2 hl).mono ?_
        rintro e w' ⟨v, r, rfl, hv⟩
        exact Or.inr ⟨by rw [liveAll_some h, hl]; rfl, v, r, rfl, hv, fun hx => absurd hx hpos, fun hx => absurd hx hc0⟩
      | true =>
        have hNil : ∀ w1 e w', Below w.heap.size w w1 → NilPost w1 e w' → ∃ v, e = .returned v ∧ (v = .nilIface ∨ ∃ t x, v = .iface t x) ∧ NilPost w (.returned v) w' := by
          rintro w1 e w' hb ⟨rfl, hb'⟩
          exact ⟨_, rfl, Or.inl rfl, rfl, hb.trans (hb'.mono hb.size)⟩
        cases hmem : Pl.member n S id with
        | false =>
          have hfin : liveAll c m n S id = true := by rw [liveAll_some h, hl, hmem]; rfl
          refine Calls.mono (R := NilPost w) (pol_in c m now p subj id u w NilPost hs hE h hc hc2 hm hm2 hl ?_ hNil) (fun e w' hx => Or.inl ⟨hfin, hx.1, hx.2⟩)
          intro w1 hb
          rcases hR with ⟨rfl, _⟩ | ⟨B, b, rfl, h1, h2, h3⟩
          · exact revoked_none id now w1
          · have hk := kept_of h1 h2 h3
            exact revoked_no B b n S id now w1 hn (fun w' hb' => hk w' (hb.trans (hb'.mono hb.size))) hS hmem
        | true =>
          have hfin : liveAll c m n S id = false := by rw [liveAll_some h, hl, hmem]; rfl
          have hRef : ∀ w1 e w', Below w.heap.size w w1 → Refusal w1 e w' → ∃ v, e = .returned v ∧ (v = .nilIface ∨ ∃ t x, v = .iface t x) ∧ Refusal w (.returned v) w' := by
            rintro w1 e w' hb ⟨v, r, rfl, hv⟩
            obtain ⟨N, rfl, hv'⟩ := hv
            exact ⟨_, rfl, Or.inr ⟨_, _, rfl⟩, _, r, rfl, Refused.cast ⟨N, rfl, hv'⟩ hb⟩
          refine Calls.mono (R := Refusal w) (pol_in c m now p subj id u w Refusal hs hE h hc hc2 hm hm2 hl ?_ hRef) (fun e w' ⟨v, r, he, hv⟩ => Or.inr ⟨hfin, v, r, he, hv, fun hx => absurd hx hpos, fun hx => absurd hx hc0⟩)
          intro w1 hb
          rcases hR with ⟨rfl, rfl⟩ | ⟨B, b, rfl, h1, h2, h3⟩
          · exfalso
            simp only [Pl.member, decide_eq_true_eq] at hmem
            obtain ⟨j, hj, _⟩ := hmem
            omega
          · have hk := kept_of h1 h2 h3
            exact revoked_yes F B b n S id now w1 (by rw [hb.tape]; exact hF) hn (fun w' hb' => hk w' (hb.trans (hb'.mono hb.size))) hS hmem (by rw [Lib.size_eq]; exact hlen) (digit_bytes hd) (hE.below hb)

set_option maxHeartbeats 1000000 in
theorem live10_any (F : Interp) (c m now : Int) (p : Option Addr) (subj id : ByteArray) (n : Nat) (S : Nat → ByteArray) (w : World) (hF : F.answers w.tape) (hs : id.size ≤ 1048576) (hn : n ≤ 1048576) (hE : Env w) (hR : Rec w p n S) (hS : Pl.Sorted n S)
    (hc : -9223372036854775808 ≤ c) (hc2 : c ≤ 9223372036854775807) (hm : -9223372036854775808 ≤ m) (hm2 : m ≤ 9223372036854775807) :
    Calls Tryf.prog 10 #[.agg #[.int .i64 c, .int .i64 m, .pointer p, .string subj], .string id, .int .i64 now] w (LivePost c m n S id w) := by
  have hb0 : Below w.heap.size w (w.alloc (.cells #[.int .i64 c, .int .i64 m, .pointer p, .string subj] 33)) := (Below.refl _ _).alloc (Nat.le_refl _) _
  have cP := pol_any F c m now p subj id n S (w.alloc (.cells #[.int .i64 c, .int .i64 m, .pointer p, .string subj] 33)) hF hs hn (hE.below hb0) (hR.below hb0) hS hc hc2 hm hm2
  have CP := hide cP
  have HB := hide hb0
  clear hF hE hR hS cP hb0
  go_enter Tryf.func10, Tryf.ntmps10
  go_wp2_with fail
  refine CP.out.mono ?_
  intro e w1 hp
  have HP := hide (hp.cast HB.out)
  have hv : e = .returned .nilIface ∨ ∃ N, e = .returned (.iface 48 (.pointer (some ⟨N, 0, none⟩))) := by
    rcases hp with ⟨_, he, _⟩ | ⟨_, v, r, he, ⟨N, hv, _⟩, _⟩
    · exact Or.inl he
    · exact Or.inr ⟨N, by rw [he, hv]⟩
  clear hp
  rcases hv with rfl | ⟨N, rfl⟩
  · go_wp2
    go_ret
    exact HP.out
  · go_wp2
    go_ret
    exact HP.out
end Go.Proofs.Qxb6615671aFmt
