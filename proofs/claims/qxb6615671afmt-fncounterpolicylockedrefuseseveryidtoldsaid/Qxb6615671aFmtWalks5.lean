/-
  Walks: the library's session number (strconv.ParseInt, strings.Trim, fmt.Sprintf).
-/
import Derived.Test.Qxb6615671aFmtWalks4
import Derived.Test.Qxb6615671aFmtShelfA
import Derived.Test.Qxb6615671aFmtShelfB
import Derived.Test.Qxb6615671aFmtFmt
import Derived.WalkSmall
import Derived.Lib.PrintData
namespace Go.Proofs.Qxb6615671aFmt
open Go.RowKit Go.Extern.Stop Go.Stop Go.Extern

/-- What the library's variables hold. -/
structure Env (w : World) : Prop where
  synt : ∃ t p, w.var? Tryf.prog "strconv.ErrSyntax" = some #[.iface t p]
  rang : ∃ t p, w.var? Tryf.prog "strconv.ErrRange" = some #[.iface t p]
  tabs : Lib.PrintTabsAt 5 6 7 8 Lib.goPrintTabs w
  utf8 : Lib.Utf8Tabs 2 3 w

theorem Tryf.gSyntax : Tryf.prog.globalNamed "strconv.ErrSyntax" = some 0 := by kernel_rfl
theorem Tryf.gRange : Tryf.prog.globalNamed "strconv.ErrRange" = some 1 := by kernel_rfl

theorem var_lt {w : World} {n : String} {g : Nat} {v : Value} (hg : Tryf.prog.globalNamed n = some g) (h : w.var? Tryf.prog n = some #[v]) : g < w.heap.size := by
  have h0 := World.var?_cell hg h 0
  exact World.block_lt_of_cell? (a := ⟨g, 0, none⟩) w (by simpa using h0)

theorem Env.below {w w' : World} (h : Env w) (hb : Below w.heap.size w w') : Env w' := by
  obtain ⟨t1, p1, h1⟩ := h.synt
  obtain ⟨t2, p2, h2⟩ := h.rang
  exact ⟨⟨t1, p1, var?_below hb Tryf.gSyntax (var_lt Tryf.gSyntax h1) h1⟩, ⟨t2, p2, var?_below hb Tryf.gRange (var_lt Tryf.gRange h2) h2⟩, printTabs_below h.tabs hb, Utf8Tabs_below h.utf8 hb⟩

theorem isEmpty_no {s : ByteArray} (h : 0 < s.size) : s.toList.isEmpty = false := by
  rw [Lib.toList_data]
  cases hd : s.data.toList with
  | nil => have := Lib.size_eq s; rw [hd, List.length_nil] at this; omega
  | cons _ _ => rfl

theorem lead_at {s : ByteArray} (h1 : 1 < s.size) (h : Pl.lead s.data.toList = false) : ((s[0].toNat : Int) == 48) = false := by
  rw [beq_eq_false_iff_ne]
  intro e
  unfold Pl.lead at h
  rw [decide_eq_false_iff_not, head_at s (by omega)] at h
  refine h ⟨by rw [← Lib.size_eq]; exact h1, ?_⟩
  rw [Option.some.injEq]
  apply UInt8.toNat_inj.1
  show s[0].toNat = 48
  omega

set_option maxHeartbeats 1000000 in
theorem number_ok (s : ByteArray) (u : Nat) (w : World) (hs : s.size ≤ 1048576) (hE : Env w) (h : Pl.sessNum s.data.toList = some u) :
    Calls Tryf.prog 20 #[.string s] w fun e w' => e = .returned (.tuple #[.int .i64 u, .nilIface]) ∧ Below w.heap.size w w' := by
  obtain ⟨hne, hlen, hu, hp, ht, hld, hd⟩ := Pl.sess_some h
  obtain ⟨t1, p1, v1⟩ := hE.synt
  obtain ⟨t2, p2, v2⟩ := hE.rang
  have hpos : 0 < s.size := by rw [Lib.size_eq]; exact List.length_pos_iff.2 hne
  have hem := isEmpty_no hpos
  have cP : Calls Tryf.prog 24 #[.string s, .int .i64 10, .int .i64 64] w fun e w' => e = .returned (.tuple #[.int .i64 u, .nilIface]) ∧ Below w.heap.size w w' := by
    refine (Tryf.strconv_ParseInt_10_at64 s (by omega) t1 t2 p1 p2 w v1 v2).mono ?_
    rintro e w' ⟨hb, h1 | h1⟩
    · obtain ⟨v, hv, rfl⟩ := h1
      rw [hp] at hv
      injection hv with hv
      subst hv
      exact ⟨rfl, hb⟩
    · exact absurd hp (h1.1 _)
  have cT : ∀ w1 : World, Calls Tryf.prog 25 #[.string s, .string ⟨#[48, 49, 50, 51, 52, 53, 54, 55, 56, 57]⟩] w1 fun e w' => e = .returned (.string ⟨#[]⟩) ∧ Below w1.heap.size w1 w' := fun w1 => by
    have := Tryf.strings_Trim_digits s w1 (by omega)
    rwa [show Lib.trimS s.data.toList [48, 49, 50, 51, 52, 53, 54, 55, 56, 57] = [] from ht] at this
  have CP := hide cP
  have CT := hide cT
  have hl0 : (hh : 1 < s.size) → ((s[0].toNat : Int) == 48) = false := fun hh => lead_at hh hld
  clear cP cT hne hlen hp ht hld hd h hE v1 v2
  by_cases h1 : 1 < s.size
  · have hl1 := hl0 h1
    clear hl0
    go_enter Tryf.func20, Tryf.ntmps20
    go_wp2_with fail
    refine CP.out.mono ?_
    rintro e w1 ⟨rfl, hb1⟩
    go_wp2_with fail
    refine (CT.out _).mono ?_
    rintro e w2 ⟨rfl, hb2⟩
    go_wp2
    all_goals first | (exfalso; omega) | (go_ret2; exact ⟨rfl, hb1.trans (hb2.mono hb1.size)⟩)
  · clear hl0
    go_enter Tryf.func20, Tryf.ntmps20
    go_wp2_with fail
    refine CP.out.mono ?_
    rintro e w1 ⟨rfl, hb1⟩
    go_wp2_with fail
    refine (CT.out _).mono ?_
    rintro e w2 ⟨rfl, hb2⟩
    go_wp2
    all_goals first | (exfalso; omega) | (go_ret2; exact ⟨rfl, hb1.trans (hb2.mono hb1.size)⟩)

/-- A refusal: a new *NotLiveError that holds the reason r. -/
def Refused (w w' : World) (v : Value) (r : ByteArray) : Prop :=
  ∃ N, v = .iface 48 (.pointer (some ⟨N, 0, none⟩)) ∧ w.heap.size ≤ N ∧ w'.cell? ⟨N, 0, none⟩ = some (.string r) ∧ Below w.heap.size w w'

/-- "the rune has no unique id" -/
def noID : ByteArray := ⟨#[116, 104, 101, 32, 114, 117, 110, 101, 32, 104, 97, 115, 32, 110, 111, 32, 117, 110, 105, 113, 117, 101, 32, 105, 100]⟩

theorem refused_new {w W : World} {r : ByteArray} {N : Nat} (hb : Below w.heap.size w W) (hN : N = W.heap.size) : Refused w (W.alloc (.cells #[.string r] 51)) (.iface 48 (.pointer (some ⟨N, 0, none⟩))) r :=
  ⟨N, rfl, by rw [hN]; exact hb.size, by rw [World.cell?_alloc_at _ _ _ _ hN]; rfl, hb.alloc hb.size _⟩
theorem Refused.drew {w w' : World} {v : Value} {r : ByteArray} (h : Refused w w' v r) : Refused w w'.drew v r := by
  obtain ⟨N, h1, h2, h3, h4⟩ := h
  exact ⟨N, h1, h2, h3, h4.drew⟩
theorem Refused.cast {w W w' : World} {v : Value} {r : ByteArray} (h : Refused W w' v r) (hb : Below w.heap.size w W) : Refused w w' v r := by
  obtain ⟨N, h1, h2, h3, h4⟩ := h
  exact ⟨N, h1, Nat.le_trans hb.size h2, h3, hb.trans (h4.mono hb.size)⟩

def NumberBad (w : World) (e : Ending) (w' : World) : Prop := ∃ v r, e = .returned (.tuple #[.int .i64 0, v]) ∧ Refused w w' v r

set_option maxHeartbeats 400000 in
theorem number_empty (w : World) : Calls Tryf.prog 20 #[.string ⟨#[]⟩] w fun e w' => ∃ v, e = .returned (.tuple #[.int .i64 0, v]) ∧ Refused w w' v noID := by
  go_enter Tryf.func20, Tryf.ntmps20
  go_wp2
  go_ret2
  exact ⟨_, rfl, refused_new (Below.refl _ _) rfl⟩

attribute [local go_sem] Tryf.call22 Tryf.guard Tryf.fmtA Tryf.fmtAr Tryf.op9_113
set_option maxHeartbeats 1000000 in
theorem number_bad1 (F : Interp) (s : ByteArray) (w : World) (hF : F.answers w.tape) (hpos : 0 < s.size)
    (cP : Calls Tryf.prog 24 #[.string s, .int .i64 10, .int .i64 64] w fun e w' => ∃ v M, e = .returned (.tuple #[.int .i64 v, .iface 77 (.pointer (some ⟨M, 0, none⟩))]) ∧ Below w.heap.size w w') :
    Calls Tryf.prog 20 #[.string s] w (NumberBad w) := by
  have hem := isEmpty_no hpos
  have CP := hide cP
  have HF := hide hF
  clear cP hF
  go_enter Tryf.func20, Tryf.ntmps20
  go_wp2_with fail
  refine CP.out.mono ?_
  rintro e w1 ⟨v, M, rfl, hb1⟩
  have hF1 : F.answers w1.tape := by rw [hb1.tape]; exact HF.out
  have hF' := answers_open hF1
  go_wp2
  go_ret2
  exact ⟨_, _, rfl, (refused_new (hb1.alloc hb1.size _) (by simp)).drew⟩

set_option maxHeartbeats 1000000 in
theorem number_bad2 (F : Interp) (s : ByteArray) (w : World) (hF : F.answers w.tape) (hpos : 0 < s.size) (v : Int) (t : ByteArray) (ht : 0 < t.size)
    (cP : Calls Tryf.prog 24 #[.string s, .int .i64 10, .int .i64 64] w fun e w' => e = .returned (.tuple #[.int .i64 v, .nilIface]) ∧ Below w.heap.size w w')
    (cT : ∀ w1 : World, Calls Tryf.prog 25 #[.string s, .string ⟨#[48, 49, 50, 51, 52, 53, 54, 55, 56, 57]⟩] w1 fun e w' => e = .returned (.string t) ∧ Below w1.heap.size w1 w') :
    Calls Tryf.prog 20 #[.string s] w (NumberBad w) := by
  have hem := isEmpty_no hpos
  have hemt := isEmpty_no ht
  have CP := hide cP
  have CT := hide cT
  have HF := hide hF
  clear cP cT hF
  go_enter Tryf.func20, Tryf.ntmps20
  go_wp2_with fail
  refine CP.out.mono ?_
  rintro e w1 ⟨rfl, hb1⟩
  go_wp2_with fail
  refine (CT.out _).mono ?_
  rintro e w2 ⟨rfl, hb2⟩
  have hb : Below w.heap.size w w2 := hb1.trans (hb2.mono hb1.size)
  clear hb1 hb2
  have hF1 : F.answers w2.tape := by rw [hb.tape]; exact HF.out
  have hF' := answers_open hF1
  go_wp2
  go_ret2
  exact ⟨_, _, rfl, (refused_new (hb.alloc hb.size _) (by simp)).drew⟩

set_option maxHeartbeats 1000000 in
theorem number_bad3 (F : Interp) (s : ByteArray) (w : World) (hF : F.answers w.tape) (hs : s.size ≤ 1048576) (h1 : 1 < s.size) (v : Int) (hld : ((s[0].toNat : Int) == 48) = true)
    (cP : Calls Tryf.prog 24 #[.string s, .int .i64 10, .int .i64 64] w fun e w' => e = .returned (.tuple #[.int .i64 v, .nilIface]) ∧ Below w.heap.size w w')
    (cT : ∀ w1 : World, Calls Tryf.prog 25 #[.string s, .string ⟨#[48, 49, 50, 51, 52, 53, 54, 55, 56, 57]⟩] w1 fun e w' => e = .returned (.string ⟨#[]⟩) ∧ Below w1.heap.size w1 w') :
    Calls Tryf.prog 20 #[.string s] w (NumberBad w) := by
  have hem := isEmpty_no (s := s) (by omega)
  have CP := hide cP
  have CT := hide cT
  have HF := hide hF
  clear cP cT hF
  go_enter Tryf.func20, Tryf.ntmps20
  go_wp2_with fail
  refine CP.out.mono ?_
  rintro e w1 ⟨rfl, hb1⟩
  go_wp2_with fail
  refine (CT.out _).mono ?_
  rintro e w2 ⟨rfl, hb2⟩
  have hb : Below w.heap.size w w2 := hb1.trans (hb2.mono hb1.size)
  clear hb1 hb2
  have hF1 : F.answers w2.tape := by rw [hb.tape]; exact HF.out
  have hF' := answers_open hF1
  go_wp2
  all_goals first | (exfalso; omega) | (go_ret2; exact ⟨_, _, rfl, (refused_new (hb.alloc hb.size _) (by simp)).drew⟩)

/-- No session number: refused. -/
theorem number_bad (F : Interp) (s : ByteArray) (w : World) (hF : F.answers w.tape) (hs : s.size ≤ 1048576) (hpos : 0 < s.size) (hE : Env w) (h : Pl.sessNum s.data.toList = none) :
    Calls Tryf.prog 20 #[.string s] w (NumberBad w) := by
  obtain ⟨t1, p1, v1⟩ := hE.synt
  obtain ⟨t2, p2, v2⟩ := hE.rang
  have hne : s.data.toList ≠ [] := fun e => by have := Lib.size_eq s; rw [e, List.length_nil] at this; omega
  have cA := Tryf.strconv_ParseInt_10_at64 s (by omega) t1 t2 p1 p2 w v1 v2
  have cT := fun w1 => Tryf.strings_Trim_digits s w1 (by omega)
  by_cases hp : ∃ v, Lib.parseIntB 64 s.data.toList = .ok v
  · obtain ⟨v, hp⟩ := hp
    have cP : Calls Tryf.prog 24 #[.string s, .int .i64 10, .int .i64 64] w fun e w' => e = .returned (.tuple #[.int .i64 v, .nilIface]) ∧ Below w.heap.size w w' := by
      refine cA.mono ?_
      rintro e w' ⟨hb, h1 | h1⟩
      · obtain ⟨v', hv, rfl⟩ := h1
        rw [hp] at hv
        injection hv with hv
        subst hv
        exact ⟨rfl, hb⟩
      · exact absurd hp (h1.1 _)
    by_cases ht : Lib.trimS s.data.toList Pl.tens = []
    · have hl := Pl.sess_none h hne hp ht
      have cT' : ∀ w1 : World, Calls Tryf.prog 25 #[.string s, .string ⟨#[48, 49, 50, 51, 52, 53, 54, 55, 56, 57]⟩] w1 fun e w' => e = .returned (.string ⟨#[]⟩) ∧ Below w1.heap.size w1 w' := fun w1 => by
        have := cT w1
        rwa [show Lib.trimS s.data.toList [48, 49, 50, 51, 52, 53, 54, 55, 56, 57] = [] from ht] at this
      unfold Pl.lead at hl
      rw [decide_eq_true_eq, ← Lib.size_eq, head_at s hpos] at hl
      exact number_bad3 F s w hF hs hl.1 v (by rw [Option.some.inj hl.2]; rfl) cP cT'
    · refine number_bad2 F s w hF hpos v _ ?_ cP cT
      rw [Lib.size_eq]
      exact List.length_pos_iff.2 ht
  · refine number_bad1 F s w hF hpos (cA.mono ?_)
    rintro e w' ⟨hb, h1 | h1⟩
    · obtain ⟨v, hv, _⟩ := h1
      exact absurd ⟨v, hv⟩ hp
    · obtain ⟨_, v, N, rfl⟩ := h1
      exact ⟨v, N, rfl, hb⟩
end Go.Proofs.Qxb6615671aFmt
