/-
  Plain laws: no Go in sight. What a session number is; the library's parse and trim agree with it; a binary search over a strictly sorted row finds just its members.
-/
import Derived.Lib.ParseIntBCases
import Derived.Lib.SlTrimSet
import Derived.Shelf.Spec.SearchS
import GoSem.Op.String
namespace Go.Proofs.Qxb6615671aFmt.Pl
open Go.Lib

/-- The number that digits spell behind 'acc', no greater than the greatest int64. -/
def digs (acc : Nat) : List UInt8 → Option Nat
  | [] => some acc
  | c :: r =>
    if 48 ≤ c.toNat ∧ c.toNat ≤ 57 then
      if 9223372036854775807 < acc * 10 + (c.toNat - 48) then none else digs (acc * 10 + (c.toNat - 48)) r
    else none

/-- A session number in its one spelling. -/
def sessNum (l : List UInt8) : Option Nat :=
  if l.length = 0 ∨ 19 < l.length then none
  else if 1 < l.length ∧ l.head? = some 48 then none
  else digs 0 l

theorem digs_le : ∀ (l : List UInt8) (acc u : Nat), acc ≤ 9223372036854775807 → digs acc l = some u → acc ≤ u ∧ u ≤ 9223372036854775807
  | [], acc, u, ha, h => by
    simp only [digs, Option.some.injEq] at h
    omega
  | c :: r, acc, u, ha, h => by
    simp only [digs] at h
    split at h
    · split at h
      · cases h
      · have := digs_le r _ u (by omega) h
        omega
    · cases h

theorem digs_grow : ∀ (l : List UInt8) (acc u : Nat), digs acc l = some u → acc * 10 ^ l.length ≤ u
  | [], acc, u, h => by
    simp only [digs, Option.some.injEq] at h
    simp [h]
  | c :: r, acc, u, h => by
    simp only [digs] at h
    split at h
    · split at h
      · cases h
      · have h1 := digs_grow r _ u h
        have h2 : acc * 10 * 10 ^ r.length ≤ (acc * 10 + (c.toNat - 48)) * 10 ^ r.length := Nat.mul_le_mul_right _ (by omega)
        rw [List.length_cons, Nat.pow_succ, Nat.mul_comm (10 ^ r.length) 10, ← Nat.mul_assoc]
        omega
    · cases h

theorem digs_digits : ∀ (l : List UInt8) (acc u : Nat), digs acc l = some u → ∀ c ∈ l, 48 ≤ c.toNat ∧ c.toNat ≤ 57
  | [], _, _, _, c, hc => by cases hc
  | b :: r, acc, u, h, c, hc => by
    simp only [digs] at h
    split at h
    · rename_i hb
      split at h
      · cases h
      · rcases List.mem_cons.1 hc with rfl | hc
        · exact hb
        · exact digs_digits r _ u h c hc
    · cases h

theorem digs_parse : ∀ (l : List UInt8) (acc u : Nat), digs acc l = some u → parseUintM 18446744073709551615 acc l = .ok u
  | [], acc, u, h => by
    simp only [digs, Option.some.injEq] at h
    simp only [parseUintM, h]
  | c :: r, acc, u, h => by
    simp only [digs] at h
    split at h
    · rename_i hc
      split at h
      · cases h
      · rename_i hb
        have := digs_parse r _ u h
        simp only [parseUintM]
        rw [if_pos hc, if_neg (by omega), if_neg (by omega)]
        exact this
    · cases h

theorem parse_digs : ∀ (l : List UInt8) (acc u : Nat), parseUintM 18446744073709551615 acc l = .ok u → acc ≤ u ∧ (u ≤ 9223372036854775807 → digs acc l = some u)
  | [], acc, u, h => by
    simp only [parseUintM] at h
    injection h with h
    exact ⟨by omega, fun _ => by simp only [digs, h]⟩
  | c :: r, acc, u, h => by
    simp only [parseUintM] at h
    split at h
    · rename_i hc
      split at h
      · cases h
      · split at h
        · cases h
        · have h2 := parse_digs r _ u h
          refine ⟨by omega, fun hu => ?_⟩
          simp only [digs]
          rw [if_pos hc, if_neg (by omega)]
          exact h2.2 hu
    · cases h

/-- "0123456789" -/
def tens : List UInt8 := [48, 49, 50, 51, 52, 53, 54, 55, 56, 57]

theorem tens_iff (c : UInt8) : tens.contains c = true ↔ 48 ≤ c.toNat ∧ c.toNat ≤ 57 := by
  have h := c.toNat_lt
  have key : ∀ n : Fin 256, tens.contains (UInt8.ofNat n.val) = true ↔ 48 ≤ n.val ∧ n.val ≤ 57 := by decide +kernel
  have h2 := key ⟨c.toNat, h⟩
  simpa using h2

theorem dropWhile_nil {p : UInt8 → Bool} : ∀ (l : List UInt8), (∀ c ∈ l, p c = true) → l.dropWhile p = []
  | [], _ => rfl
  | a :: r, h => by
    rw [List.dropWhile_cons, if_pos (h a (by simp))]
    exact dropWhile_nil r (fun c hc => h c (by simp [hc]))

theorem of_dropWhile_nil {p : UInt8 → Bool} : ∀ (l : List UInt8), l.dropWhile p = [] → ∀ c ∈ l, p c = true
  | [], _, c, hc => by cases hc
  | a :: r, h, c, hc => by
    rw [List.dropWhile_cons] at h
    split at h
    · rename_i ha
      rcases List.mem_cons.1 hc with rfl | hc
      · exact ha
      · exact of_dropWhile_nil r h c hc
    · cases h

theorem mem_dropWhile_or {p : UInt8 → Bool} : ∀ (l : List UInt8) (c : UInt8), c ∈ l → p c = true ∨ c ∈ l.dropWhile p
  | [], c, hc => by cases hc
  | a :: r, c, hc => by
    rw [List.dropWhile_cons]
    split
    · rename_i ha
      rcases List.mem_cons.1 hc with rfl | hc
      · exact Or.inl ha
      · exact mem_dropWhile_or r c hc
    · exact Or.inr hc

theorem trim_nil (l : List UInt8) : trimS l tens = [] ↔ ∀ c ∈ l, 48 ≤ c.toNat ∧ c.toNat ≤ 57 := by
  unfold trimS trimLeftS trimRightS
  constructor
  · intro h c hc
    rw [← tens_iff]
    have h1 := of_dropWhile_nil _ h
    rcases mem_dropWhile_or (p := (tens.contains ·)) l.reverse c (by simp [hc]) with h2 | h2
    · exact h2
    · exact h1 c (by simpa using h2)
  · intro h
    have : l.reverse.dropWhile (tens.contains ·) = [] := dropWhile_nil _ (fun c hc => (tens_iff c).2 (h c (by simpa using hc)))
    rw [this]
    rfl

/-- No leading nought but for the numeral '0' itself. -/
def lead (l : List UInt8) : Bool := decide (1 < l.length ∧ l.head? = some 48)

theorem parseIntB_digits (l : List UInt8) (hne : l ≠ []) (hd : ∀ c ∈ l, 48 ≤ c.toNat ∧ c.toNat ≤ 57) : parseIntB 64 l = signlessC 9223372036854775808 (parseUintM 18446744073709551615 0 l) := by
  cases l with
  | nil => exact absurd rfl hne
  | cons c r =>
    have := hd c (by simp)
    rw [parseIntB_plain 64 c r (by omega) (by omega)]
    unfold parseUintB
    rw [if_neg (by simp)]

/-- A session number: what the library's parse gives, all digits, no leading nought. -/
theorem sess_some {l : List UInt8} {u : Nat} (h : sessNum l = some u) : l ≠ [] ∧ l.length ≤ 19 ∧ u ≤ 9223372036854775807 ∧ parseIntB 64 l = .ok (u : Int) ∧ trimS l tens = [] ∧ lead l = false ∧ ∀ c ∈ l, 48 ≤ c.toNat ∧ c.toNat ≤ 57 := by
  unfold sessNum at h
  split at h
  · cases h
  · rename_i h1
    split at h
    · cases h
    · rename_i h2
      have hne : l ≠ [] := fun e => h1 (Or.inl (by rw [e]; rfl))
      have hd := digs_digits l 0 u h
      have hu := digs_le l 0 u (by omega) h
      refine ⟨hne, by omega, hu.2, ?_, (trim_nil l).2 hd, by simpa [lead] using h2, hd⟩
      rw [parseIntB_digits l hne hd, digs_parse l 0 u h]
      simp only [signlessC]
      rw [if_neg (by omega)]

/-- No session number, and yet the parse and the trim pass: then it has a leading nought. -/
theorem sess_none {l : List UInt8} {v : Int} (h : sessNum l = none) (hne : l ≠ []) (hp : parseIntB 64 l = .ok v) (ht : trimS l tens = []) : lead l = true := by
  have hd := (trim_nil l).1 ht
  rw [parseIntB_digits l hne hd] at hp
  cases hm : parseUintM 18446744073709551615 0 l
  · rename_i u
    rw [hm] at hp
    simp only [signlessC] at hp
    split at hp
    · cases hp
    · rename_i hu
      have hg := (parse_digs l 0 u hm).2 (by omega)
      by_cases hl : 1 < l.length ∧ l.head? = some 48
      · simpa [lead] using hl
      · exfalso
        unfold sessNum at h
        by_cases hlen : l.length = 0 ∨ 19 < l.length
        · rcases hlen with h0 | h19
          · exact hne (List.length_eq_zero_iff.1 h0)
          · cases l with
            | nil => exact hne rfl
            | cons c r =>
              simp only [List.length_cons] at h19
              have hc := hd c (by simp)
              have h48 : c.toNat ≠ 48 := fun e => hl ⟨by simp only [List.length_cons]; omega, by
                simp only [List.head?_cons, Option.some.injEq]
                exact UInt8.toNat_inj.1 e⟩
              simp only [digs] at hg
              rw [if_pos hc] at hg
              split at hg
              · cases hg
              · have hgr := digs_grow r _ u hg
                have hp19 : (10 : Nat) ^ 19 ≤ 10 ^ r.length := Nat.pow_le_pow_right (by decide) (by omega)
                have e19 : (10 : Nat) ^ 19 = 10000000000000000000 := by decide
                have h3 : 1 * 10 ^ r.length ≤ (0 * 10 + (c.toNat - 48)) * 10 ^ r.length := Nat.mul_le_mul_right _ (by omega)
                omega
        · rw [if_neg hlen, if_neg hl, hg] at h
          cases h
  · rw [hm] at hp; cases hp
  · rw [hm] at hp; cases hp

/-! Strings' order -/
open Go.Op (bytesLess)
theorem less_irrefl : ∀ (a : List UInt8), bytesLess a a = false
  | [] => rfl
  | c :: r => by simp [bytesLess, less_irrefl r]

theorem less_trans : ∀ (a b c : List UInt8), bytesLess a b = true → bytesLess b c = true → bytesLess a c = true
  | a, [], c, h, _ => by cases a <;> simp [bytesLess] at h
  | a, _ :: _, [], _, h => by simp [bytesLess] at h
  | [], _ :: _, _ :: _, _, _ => by simp [bytesLess]
  | x :: a, y :: b, z :: c, h1, h2 => by
    simp only [bytesLess, Bool.or_eq_true, decide_eq_true_eq, Bool.and_eq_true, beq_iff_eq] at h1 h2 ⊢
    rcases h1 with h1 | ⟨rfl, h1⟩
    · rcases h2 with h2 | ⟨rfl, h2⟩
      · exact Or.inl (UInt8.lt_trans h1 h2)
      · exact Or.inl h1
    · rcases h2 with h2 | ⟨rfl, h2⟩
      · exact Or.inl h2
      · exact Or.inr ⟨rfl, less_trans a b c h1 h2⟩

/-- A strictly sorted row. -/
def Sorted (n : Nat) (S : Nat → ByteArray) : Prop := ∀ i, i + 1 < n → bytesLess (S i).toList (S (i + 1)).toList = true

theorem Sorted.lt {n : Nat} {S : Nat → ByteArray} (h : Sorted n S) : ∀ (d i : Nat), i + d + 1 < n → bytesLess (S i).toList (S (i + d + 1)).toList = true
  | 0, i, hi => h i hi
  | d + 1, i, hi => less_trans _ _ _ (h.lt d i (by omega)) (h (i + d + 1) (by omega))

theorem bs_spec (less : Nat → Bool) (n k : Nat) (h1 : ∀ t, t < k → less t = true) (h2 : ∀ t, k ≤ t → t < n → less t = false) : ∀ (f lo hi : Nat), hi - lo ≤ f → lo ≤ k → k ≤ hi → hi ≤ n → bsGo less f lo hi = k
  | 0, lo, hi, hf, a, b, _ => by simp [bsGo]; omega
  | f + 1, lo, hi, hf, a, b, hn => by
    unfold bsGo
    by_cases h : lo < hi
    · rw [if_pos h]
      by_cases hm : (lo + hi) / 2 < k
      · rw [h1 _ hm, if_pos rfl]; exact bs_spec less n k h1 h2 f _ _ (by omega) (by omega) b hn
      · rw [h2 _ (by omega) (by omega)]; exact bs_spec less n k h1 h2 f _ _ (by omega) a (by omega) (by omega)
    · rw [if_neg h]; omega

theorem head_exists (less : Nat → Bool) : ∀ (n : Nat), (∀ s t, s < t → t < n → less t = true → less s = true) → ∃ k, k ≤ n ∧ (∀ t, t < k → less t = true) ∧ (∀ t, k ≤ t → t < n → less t = false)
  | 0, _ => ⟨0, Nat.le_refl _, fun t h => by omega, fun t _ h => by omega⟩
  | n + 1, mono => by
    obtain ⟨k, hk, a, b⟩ := head_exists less n (fun s t h1 h2 h3 => mono s t h1 (by omega) h3)
    by_cases hn : less n = true
    · exact ⟨n + 1, Nat.le_refl _, fun t ht => by
        by_cases e : t = n
        · rw [e]; exact hn
        · exact mono t n (by omega) (by omega) hn, fun t h1 h2 => by omega⟩
    · refine ⟨k, by omega, a, fun t h1 h2 => ?_⟩
      by_cases e : t = n
      · rw [e]; simpa using hn
      · exact b t h1 (by omega)

/-- Is x among the first n? -/
def member (n : Nat) (S : Nat → ByteArray) (x : ByteArray) : Bool := decide (∃ j, j < n ∧ S j = x)

/-- The binary search over a strictly sorted row answers whether x is among its elements. -/
theorem search_member {n : Nat} {S : Nat → ByteArray} (hs : Sorted n S) (x : ByteArray) :
    decide (bsGo (fun t => bytesLess (S t).toList x.toList) n 0 n < n ∧ S (bsGo (fun t => bytesLess (S t).toList x.toList) n 0 n) = x) = member n S x := by
  have lt : ∀ i j, i < j → j < n → bytesLess (S i).toList (S j).toList = true := fun i j hij hj => by
    have := hs.lt (j - i - 1) i (by omega)
    rwa [show i + (j - i - 1) + 1 = j by omega] at this
  obtain ⟨k, hk, h1, h2⟩ := head_exists (fun t => bytesLess (S t).toList x.toList) n (fun s t hst htn h => less_trans _ _ _ (lt s t hst htn) h)
  rw [bs_spec _ n k h1 h2 n 0 n (by omega) (by omega) hk (Nat.le_refl _)]
  unfold member
  rw [decide_eq_decide]
  constructor
  · rintro ⟨a, b⟩
    exact ⟨k, a, b⟩
  · rintro ⟨j, hj, rfl⟩
    have hkj : k ≤ j := by
      rcases Nat.lt_or_ge j k with h | h
      · have := h1 j h
        simp only [less_irrefl] at this
        cases this
      · exact h
    have : k = j := by
      rcases Nat.lt_or_ge k j with h | h
      · have a := h2 k (Nat.le_refl _) (by omega)
        have b := lt k j h hj
        simp only [b] at a
        cases a
      · omega
    subst this
    exact ⟨hj, rfl⟩

end Go.Proofs.Qxb6615671aFmt.Pl
