/-
  Walks: the clone; the record made of it; the list read back.
-/
import Derived.Test.Qxb6615671aFmtWalks3
import Derived.Deep.OwnRows
import Derived.Lib.LazyBuf
namespace Go.Proofs.Qxb6615671aFmt
open Go.RowKit

theorem Tryf.info9 : (Tryf.prog.info? 9).map (fun i => (i.zero, i.size, i.bytes)) = some (some (.string ⟨#[]⟩), 1, 16) := by kernel_rfl

theorem clone_nil (w : World) : Calls Tryf.prog 8 #[.slice none 0 0] w fun e w' => e = .returned (.slice none 0 0) ∧ w' = w := by
  have hq := fun wx => run_eql_slice_nil (P := Tryf.prog) wx 22 9 none 0 0 Tryf.underlying22
  go_enter Tryf.func8, Tryf.ntmps8
  go_wp2
  go_ret
  exact ⟨rfl, rfl⟩

/-- A new block that holds the row. -/
def Copied (w w' : World) (n k : Nat) (S : Nat → ByteArray) : Prop := ∃ cs : Array Value, cs.size = n ∧ w' = w.alloc (.cells cs 9) ∧ ∀ j, j < k → cs[j]? = some (.string (S j))
theorem Copied.step {w : World} {n k : Nat} {S : Nat → ByteArray} {cs : Array Value} (h1 : cs.size = n) (h2 : ∀ j, j < k → cs[j]? = some (.string (S j))) (hk : k < n) :
    Copied w (w.alloc (.cells (cs.setIfInBounds k (.string (S k))) 9)) n (k + 1) S := by
  refine ⟨_, by simpa using h1, rfl, fun j hj => ?_⟩
  rw [Array.getElem?_setIfInBounds]
  by_cases e : k = j
  · subst e
    rw [if_pos rfl, if_pos (by omega)]
  · rw [if_neg e]
    exact h2 j (by omega)

def ClonePost (n : Nat) (S : Nat → ByteArray) (w : World) (e : Ending) (w' : World) : Prop :=
  e = .returned (.slice (some ⟨w.heap.size, 0, none⟩) n n) ∧ Copied w w' n n S

set_option maxHeartbeats 1000000 in
theorem clone_some (ad : Addr) (n cap : Nat) (S : Nat → ByteArray) (w : World) (hn : n ≤ 1048576) (hR : Row w (some ad) n S) :
    Calls Tryf.prog 8 #[.slice (some ad) n cap] w (ClonePost n S w) := by
  have hq := fun wx => run_eql_slice_nil (P := Tryf.prog) wx 22 9 (some ad) n cap Tryf.underlying22
  have hmk := run_make_row' (P := Tryf.prog) 22 9 (.string ⟨#[]⟩) 16 Tryf.underlying22 Tryf.info9 rfl .i64 .i64 n (by omega) (by omega)
  go_enter Tryf.func8, Tryf.ntmps8
  go_wp2
  clear hq hmk
  go_loopw [4] (fun i wr => ∃ k : Nat, k ≤ n ∧ i = .int .i64 k ∧ Copied w wr n k S) (fun i _ => n - (intOf i).toNat)
  case atStart => exact ⟨0, by omega, rfl, _, size_madeCells _ _, rfl, fun j h => by omega⟩
  case round =>
    obtain ⟨k, hk, rfl, cs, hsz, rfl, hcs⟩ := hrel
    by_cases hlt : k < n
    · obtain ⟨b, off, e0, hck, hzk⟩ := hR k hlt
      cases e0
      have hb : b < w.heap.size := World.block_lt_of_cell? _ _ hck
      have hC := Copied.step (w := w) hsz hcs hlt
      have HC := hide hC
      have hold : cs[k]? = some (cs[k]'(by omega)) := Array.getElem?_eq_getElem (by omega)
      clear hR hzk hC hcs
      generalize S k = s at hck HC
      go_wp2
      go_roundw
      case rel => exact ⟨k + 1, by omega, by go_num, HC.out⟩
      case measure => simp [intOf]; omega
    · clear hR
      go_wp2
      go_ret
      exact ⟨rfl, cs, hsz, rfl, fun j hj => hcs j (by omega)⟩

set_option maxHeartbeats 400000 in
theorem newRevoked_zero (a : Option Addr) (c : Nat) (w : World) : Calls Tryf.prog 9 #[.slice a 0 c] w fun e w' => e = .returned (.agg #[.pointer none]) ∧ Below w.heap.size w w' := by
  go_enter Tryf.func9, Tryf.ntmps9
  go_wp2
  exact bodyPost_ret (v := .agg #[.pointer none]) (by simp [results, Tryf.results9, go_sem]) rfl ⟨rfl, ((Below.refl _ _).alloc (Nat.le_refl _) _).alloc (by simp) _⟩
set_option maxHeartbeats 400000 in
theorem newRevoked_some (a : Option Addr) (n c : Nat) (w : World) (hn : 0 < n) (hn2 : n ≤ 1048576) : Calls Tryf.prog 9 #[.slice a n c] w fun e w' => e = .returned (.agg #[.pointer (some ⟨w.heap.size, 0, none⟩)]) ∧ w' = (w.alloc (.cells #[.slice a n c] 22)).alloc (.cells #[.pointer (some ⟨w.heap.size, 0, none⟩)] 30) := by
  go_enter Tryf.func9, Tryf.ntmps9
  go_wp2
  exact bodyPost_ret (v := .agg #[.pointer (some ⟨w.heap.size, 0, none⟩)]) (by simp [results, Tryf.results9, go_sem]) rfl ⟨rfl, rfl⟩
set_option maxHeartbeats 400000 in
theorem list_none (w : World) : Calls Tryf.prog 27 #[.agg #[.pointer none]] w fun e w' => e = .returned (.slice none 0 0) ∧ Below w.heap.size w w' := by
  go_enter Tryf.func27, Tryf.ntmps27
  go_wp2
  go_ret
  exact ⟨rfl, (Below.refl _ _).alloc (Nat.le_refl _) _⟩
set_option maxHeartbeats 400000 in
theorem list_some (B : Nat) (a : Option Addr) (n c : Nat) (w : World) (h : w.cell? ⟨B, 0, none⟩ = some (.slice a n c)) : Calls Tryf.prog 27 #[.agg #[.pointer (some ⟨B, 0, none⟩)]] w fun e w' => e = .returned (.slice a n c) ∧ Below w.heap.size w w' := by
  have hb : B < w.heap.size := World.block_lt_of_cell? _ _ h
  go_enter Tryf.func27, Tryf.ntmps27
  go_wp2
  go_ret
  exact ⟨rfl, (Below.refl _ _).alloc (Nat.le_refl _) _⟩
end Go.Proofs.Qxb6615671aFmt
