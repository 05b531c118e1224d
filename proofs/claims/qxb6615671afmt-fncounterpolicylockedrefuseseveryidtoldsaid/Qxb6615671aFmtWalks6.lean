/-
  Walks: quoted at a numeral; the record of revoked ids asked for an id.
-/
import Derived.Test.Qxb6615671aFmtWalks5
import Derived.Laws.RangeString
namespace Go.Proofs.Qxb6615671aFmt
open Go.RowKit Go.Extern.Stop Go.Stop Go.Extern

set_option maxHeartbeats 1000000 in
theorem quoted_any (s : ByteArray) (w : World) (hs : s.size ≤ 19) (hd : ∀ (k : Nat) (h : k < s.size), s[k].toNat < 128) (hE : Env w) :
    Calls Tryf.prog 28 #[.string s] w fun e w' => ∃ r, e = .returned (.string r) ∧ Below w.heap.size w w' := by
  have hb0 : ∀ k, Below w.heap.size w (w.iter s k) := fun k => (Below.refl _ _).alloc (Nat.le_refl _) _
  have HB := hide hb0
  have HE := hide hE
  have HD := hide hd
  clear hb0 hE hd
  go_enter Tryf.func28, Tryf.ntmps28
  go_wp2
  go_loopw [3] (fun n wr => ∃ k : Nat, k ≤ s.size ∧ n = .int .i64 k ∧ wr = w.iter s k) (fun n _ => s.size - (intOf n).toNat)
  case atStart => exact ⟨0, by omega, rfl, rfl⟩
  case round =>
    obtain ⟨k, hk, rfl, rfl⟩ := hrel
    by_cases hlt : k < s.size
    · have hnx := fun ty => run_next_ascii (P := Tryf.prog) w s k ty hlt (HD.out k hlt)
      have h64 : ((k : Int) == 64) = false := beq_eq_false_iff_ne.2 (by omega)
      go_wp2
      go_roundw
      case rel => exact ⟨k + 1, by omega, by go_num, rfl⟩
      case measure => simp [intOf]; omega
    · have hnx := fun ty => run_next_end (P := Tryf.prog) w s k ty hlt
      go_wp2_with fail
      refine (Tryf.strconv_Quote Lib.goPrintTabs s _ (by omega) (HE.out.below (HB.out k)).tabs (HE.out.below (HB.out k)).utf8).mono ?_
      rintro e w1 ⟨rfl, hb1⟩
      go_wp2
      go_ret
      exact ⟨_, rfl, (HB.out k).trans (hb1.mono (HB.out k).size)⟩

/-- The record in memory: nil, or a pointer to a slice over the ids. -/
def Rec (w : World) (p : Option Addr) (n : Nat) (S : Nat → ByteArray) : Prop :=
  (p = none ∧ n = 0) ∨ ∃ B b, p = some ⟨B, 0, none⟩ ∧ w.cell? ⟨B, 0, none⟩ = some (.slice (some ⟨b, 0, none⟩) n n) ∧ (0 < n → b < w.heap.size) ∧ ∀ j, j < n → w.cell? ⟨b, 0 + j, none⟩ = some (.string (S j))

theorem Rec.below {w w' : World} {p : Option Addr} {n : Nat} {S : Nat → ByteArray} (h : Rec w p n S) (hb : Below w.heap.size w w') : Rec w' p n S := by
  rcases h with h | ⟨B, b, rfl, h1, h2, h3⟩
  · exact Or.inl h
  · refine Or.inr ⟨B, b, rfl, ?_, fun h => Nat.lt_of_lt_of_le (h2 h) hb.size, fun j hj => ?_⟩
    · rw [hb.cell (p := ⟨B, 0, none⟩) (World.block_lt_of_cell? _ _ h1)]; exact h1
    · rw [hb.cell (p := ⟨b, 0 + j, none⟩) (h2 (by omega))]; exact h3 j hj

set_option maxHeartbeats 1000000 in
theorem revoked_none (id : ByteArray) (now : Int) (w : World) :
    Calls Tryf.prog 21 #[.agg #[.pointer none], .string id, .int .i64 now] w fun e w' => e = .returned .nilIface ∧ Below w.heap.size w w' := by
  go_enter Tryf.func21, Tryf.ntmps21
  go_wp2_with fail
  refine (list_none _).mono ?_
  rintro e w1 ⟨rfl, hb1⟩
  go_wp2_with fail
  refine (Tryf.slices_BinarySearch_string_empty none 0 id _).mono ?_
  rintro e w2 ⟨rfl, rfl⟩
  go_wp2
  go_ret
  exact ⟨rfl, ((Below.refl _ _).alloc (Nat.le_refl _) _).trans (hb1.mono (by simp))⟩

/-- The binary search over the record: is the id a member? -/
theorem search_any (b n : Nat) (S : Nat → ByteArray) (id : ByteArray) (w : World) (hn : n ≤ 1048576) (h2 : ∀ j, j < n → w.cell? ⟨b, 0 + j, none⟩ = some (.string (S j))) (hS : Pl.Sorted n S) (m : Bool) (hm : Pl.member n S id = m) :
    Calls Tryf.prog 26 #[.slice (some ⟨b, 0, none⟩) n n, .string id] w fun e w' => ∃ i : Int, e = .returned (.tuple #[.int .i64 i, .bool m]) ∧ Below w.heap.size w w' := by
  refine (Tryf.slices_BinarySearch_string b 0 n n S id w (by omega) h2).mono ?_
  rintro e w' ⟨rfl, q, rfl⟩
  rw [Pl.search_member hS id, hm]
  exact ⟨_, rfl, below_drewN (Below.refl _ _) q⟩

/-- What stands in every later world. -/
def Kept (B b n : Nat) (S : Nat → ByteArray) (w : World) : Prop :=
  ∀ w', Below w.heap.size w w' → w'.cell? ⟨B, 0, none⟩ = some (.slice (some ⟨b, 0, none⟩) n n) ∧ ∀ j, j < n → w'.cell? ⟨b, 0 + j, none⟩ = some (.string (S j))

theorem kept_of {w : World} {B b n : Nat} {S : Nat → ByteArray} (h1 : w.cell? ⟨B, 0, none⟩ = some (.slice (some ⟨b, 0, none⟩) n n)) (h2 : 0 < n → b < w.heap.size) (h3 : ∀ j, j < n → w.cell? ⟨b, 0 + j, none⟩ = some (.string (S j))) : Kept B b n S w := fun w' hb =>
  ⟨by rw [hb.cell (p := ⟨B, 0, none⟩) (World.block_lt_of_cell? _ _ h1)]; exact h1, fun j hj => by rw [hb.cell (p := ⟨b, 0 + j, none⟩) (h2 (by omega))]; exact h3 j hj⟩

set_option maxHeartbeats 1000000 in
theorem revoked_no (B b n : Nat) (S : Nat → ByteArray) (id : ByteArray) (now : Int) (w : World) (hn : n ≤ 1048576) (hK : Kept B b n S w) (hS : Pl.Sorted n S) (hm : Pl.member n S id = false) :
    Calls Tryf.prog 21 #[.agg #[.pointer (some ⟨B, 0, none⟩)], .string id, .int .i64 now] w fun e w' => e = .returned .nilIface ∧ Below w.heap.size w w' := by
  have hb0 : Below w.heap.size w (w.alloc (.cells #[.pointer (some ⟨B, 0, none⟩)] 30)) := (Below.refl _ _).alloc (Nat.le_refl _) _
  have HB := hide hb0
  have cS := fun w1 hb => search_any b n S id w1 hn (hK w1 hb).2 hS false hm
  have CS := hide cS
  have HK := hide hK
  clear hb0 hS hm cS hK
  go_enter Tryf.func21, Tryf.ntmps21
  go_wp2_with fail
  refine (list_some B _ n n _ (HK.out _ HB.out).1).mono ?_
  rintro e w1 ⟨rfl, hb1⟩
  have hb : Below w.heap.size w w1 := HB.out.trans (hb1.mono HB.out.size)
  clear hb1
  go_wp2_with fail
  refine (CS.out _ hb).mono ?_
  rintro e w2 ⟨i, rfl, hb2⟩
  go_wp2
  go_ret
  exact ⟨rfl, hb.trans (hb2.mono hb.size)⟩

/-- Some refusal. -/
def Refusal (w : World) (e : Ending) (w' : World) : Prop := ∃ v r, e = .returned v ∧ Refused w w' v r

attribute [local go_sem] Tryf.call22 Tryf.guard Tryf.fmtB Tryf.fmtBr Tryf.op9_115
set_option maxHeartbeats 1000000 in
theorem revoked_yes (F : Interp) (B b n : Nat) (S : Nat → ByteArray) (id : ByteArray) (now : Int) (w : World) (hF : F.answers w.tape) (hn : n ≤ 1048576) (hK : Kept B b n S w) (hS : Pl.Sorted n S) (hm : Pl.member n S id = true)
    (hs : id.size ≤ 19) (hd : ∀ (k : Nat) (h : k < id.size), id[k].toNat < 128) (hE : Env w) :
    Calls Tryf.prog 21 #[.agg #[.pointer (some ⟨B, 0, none⟩)], .string id, .int .i64 now] w (Refusal w) := by
  have hb0 : Below w.heap.size w (w.alloc (.cells #[.pointer (some ⟨B, 0, none⟩)] 30)) := (Below.refl _ _).alloc (Nat.le_refl _) _
  have HB := hide hb0
  have cS := fun w1 hb => search_any b n S id w1 hn (hK w1 hb).2 hS true hm
  have CS := hide cS
  have cQ := fun w1 (hb : Below w.heap.size w w1) => quoted_any id w1 hs hd (hE.below hb)
  have CQ := hide cQ
  have HK := hide hK
  have HF := hide hF
  clear hb0 hS hm cS hK cQ hd hE hF
  go_enter Tryf.func21, Tryf.ntmps21
  go_wp2_with fail
  refine (list_some B _ n n _ (HK.out _ HB.out).1).mono ?_
  rintro e w1 ⟨rfl, hb1⟩
  have hb : Below w.heap.size w w1 := HB.out.trans (hb1.mono HB.out.size)
  clear hb1
  go_wp2_with fail
  refine (CS.out _ hb).mono ?_
  rintro e w2 ⟨i, rfl, hb2⟩
  have hb' : Below w.heap.size w w2 := hb.trans (hb2.mono hb.size)
  clear hb2 hb
  go_wp2_with fail
  refine (CQ.out _ hb').mono ?_
  rintro e w3 ⟨r, rfl, hb3⟩
  have hb : Below w.heap.size w w3 := hb'.trans (hb3.mono hb'.size)
  clear hb3 hb'
  have hF1 : F.answers w3.tape := by rw [hb.tape]; exact HF.out
  have hF' := answers_open hF1
  go_wp2
  go_ret
  exact ⟨_, _, rfl, (refused_new (hb.alloc hb.size _) (by simp)).drew⟩
end Go.Proofs.Qxb6615671aFmt
