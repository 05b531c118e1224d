/-
  The two walks gathered; what the listed variables give; the start that is shown.
-/
import Derived.Test.Qxb6615671aFmtRows
import Derived.Test.Qxb6615671aFmtWalks9
import Derived.ProofKit
import Derived.OpenShut
import Derived.PinnedBridge
import Derived.Lay
import Derived.MakeChecks
import Derived.SliceStrings
import Derived.SizedLaws
import Derived.Stop.LaidErr
import Derived.Stop.Joined
import Derived.Stop.JoinedTold
import Derived.Lib.LaidPrint
import Derived.Lib.LaidU8
namespace Go.Proofs.Qxb6615671aFmt
open Go.ChangeShapes Go.WideShapes Go.ChangeAt Go.RowKit Go.Extern.Stop Go.Stop Go.Extern Go.Lib Go.Shelf

theorem Tryf.own : ownKnob Tryf.prog.godebug = none := by kernel_rfl
theorem Tryf.laidOut : laidOutB Tryf.prog = true := by kernel_rfl

/-- The first law, whatever the input. -/
theorem law1_any (F : Interp) (c m now now2 : Int) (a : Option Addr) (n cap : Nat) (S : Nat → ByteArray) (subj id : ByteArray) (w : World) (hF : F.answers w.tape) (hE : Env w) (hR : Row w a n S) (ha : a = none → n = 0 ∧ cap = 0)
    (hnm : n ≤ maxLen) (hsm : subj.size ≤ maxLen) (him : id.size ≤ maxLen) (hc : -9223372036854775808 ≤ c) (hc2 : c ≤ 9223372036854775807) (hm : -9223372036854775808 ≤ m) (hm2 : m ≤ 9223372036854775807) :
    Calls Tryf.prog 3 #[.int .i64 c, .int .i64 m, .slice a n cap, .string subj, .string id, .int .i64 now, .int .i64 now2] w (Yes w) := by
  cases h : Pl.sessNum id.data.toList with
  | none => exact law1_none F c m now now2 a n cap S subj id w hF hE hR ha hnm hsm him hc hc2 hm hm2 h
  | some u =>
    by_cases h0 : c < 0
    · exact law1_neg F c m now now2 a n cap S subj id w hF hE hR ha hnm hsm him hc hc2 hm hm2 u h h0
    by_cases h1 : c ≤ u
    · exact law1_far F c m now now2 a n cap S subj id w hF hE hR ha hnm hsm him hc hc2 hm hm2 u h (by omega) h1
    by_cases h2 : m < c - u
    · exact law1_old F c m now now2 a n cap S subj id w hF hE hR ha hnm hsm him hc hc2 hm hm2 u h (by omega) (by omega) h2
    cases hmem : Pl.member n S id with
    | false => exact law1_in F c m now now2 a n cap S subj id w hF hE hR ha hnm hsm him hc hc2 hm hm2 u h (by omega) (by omega) (by omega) hmem
    | true => exact law1_rev F c m now now2 a n cap S subj id w hF hE hR ha hnm hsm him hc hc2 hm hm2 u h (by omega) (by omega) (by omega) hmem

/-- The second law, whatever the input. -/
theorem law2_any (F : Interp) (c m now : Int) (a : Option Addr) (n cap : Nat) (S : Nat → ByteArray) (subj id : ByteArray) (w : World) (hF : F.answers w.tape) (hE : Env w) (hR : Row w a n S) (ha : a = none → n = 0 ∧ cap = 0)
    (hnm : n ≤ maxLen) (hsm : subj.size ≤ maxLen) (him : id.size ≤ maxLen) (hc : -9223372036854775808 ≤ c) (hc2 : c ≤ 9223372036854775807) (hm : -9223372036854775808 ≤ m) (hm2 : m ≤ 9223372036854775807) :
    Calls Tryf.prog 4 #[.int .i64 c, .int .i64 m, .slice a n cap, .string subj, .string id, .int .i64 now] w (Yes w) := by
  by_cases hz : id.size = 0
  · obtain rfl : id = ⟨#[]⟩ := by
      apply ba_ext
      rw [Lib.toList_data, Lib.toList_data]
      have := Lib.size_eq id
      exact List.length_eq_zero_iff.1 (by omega)
    by_cases h0 : c < 0
    · exact law2_empty_neg F c m now a n cap S subj w hF hE hR ha hnm hsm hc hc2 hm hm2 h0
    · exact law2_empty_pos F c m now a n cap S subj w hF hE hR ha hnm hsm hc hc2 hm hm2 (by omega)
  cases h : Pl.sessNum id.data.toList with
  | none =>
    by_cases h0 : c < 0
    · exact law2_none_neg F c m now a n cap S subj id w hF hE hR ha hnm hsm him hc hc2 hm hm2 h (by omega) h0
    · exact law2_none_pos F c m now a n cap S subj id w hF hE hR ha hnm hsm him hc hc2 hm hm2 h (by omega) (by omega)
  | some u =>
    by_cases h0 : c < 0
    · exact law2_some_neg F c m now a n cap S subj id w hF hE hR ha hnm hsm him hc hc2 hm hm2 u h h0
    · exact law2_some_pos F c m now a n cap S subj id w hF hE hR ha hnm hsm him hc hc2 hm hm2 u h (by omega)

/-- The listed variables. -/
def laidL : List (String × DataW Unit) := Rows.fnCounterPolicyLiveExactlyRow.laid
theorem laidL_one : Rows.fnCounterPolicyLiveExactlyRow.laid = laidL := rfl
theorem laidL_two : Rows.fnCounterPolicyLockedRefusesEveryIDRow.laid = laidL := rfl

set_option maxRecDepth 100000 in
theorem first_eq : Rows.laid_unicode_utf8_first = Lib.firstData := Pinned.utf8First_eq
set_option maxRecDepth 100000 in
theorem accept_eq : (Rows.laid_unicode_utf8_acceptRanges : DataW Unit) = Lib.acceptData := by kernel_rfl

/-- An error variable that a sentinel lays holds an interface value. -/
theorem iface_of_reads {w : World} {name nm : String} {d : DataW Unit} {g : Nat} (hn : Tryf.prog.globalNamed name = some g) (hy : (Tryf.prog.globals[g]?).map (·.type) = some 35) (h : Lib.VarReads Tryf.prog w name (.iface nm d)) :
    ∃ t p, w.var? Tryf.prog name = some #[.iface t p] := by
  obtain ⟨g', t', cs, fuel, p, hg, hty, hvar, hd⟩ := h
  obtain rfl := Option.some.inj (hn.symm.trans hg)
  obtain rfl := Option.some.inj (hy.symm.trans hty)
  obtain ⟨_, u, v, hcs, _, _⟩ := iface_of_trod Tryf.underlying35 hd
  refine ⟨u, v, ?_⟩
  have hc : cs = #[.iface u v] := Array.toList_inj.1 hcs
  rw [hvar, hc]

theorem env_of_laid {w : World} (h : laidMetH Tryf.prog laidL w) : Env w := by
  rw [MakeChecks.laidMetH_plain _ _ _ (by kernel_rfl)] at h
  refine ⟨?_, ?_, ?_, ?_⟩
  · have hr : Lib.VarReads Tryf.prog w "strconv.ErrSyntax" Rows.laid_strconv_ErrSyntax := Lib.laidMet.reads h (by simp [laidL, Rows.fnCounterPolicyLiveExactlyRow])
    exact iface_of_reads (g := 0) (by kernel_rfl) (by kernel_rfl) hr
  · have hr : Lib.VarReads Tryf.prog w "strconv.ErrRange" Rows.laid_strconv_ErrRange := Lib.laidMet.reads h (by simp [laidL, Rows.fnCounterPolicyLiveExactlyRow])
    exact iface_of_reads (g := 1) (by kernel_rfl) (by kernel_rfl) hr
  · refine printTabs_of_reads (ρ := Tryf.lays177_ren) { Tryf.lays177 with } ⟨by kernel_rfl, by kernel_rfl, by kernel_rfl, by kernel_rfl, by kernel_rfl, by kernel_rfl, by kernel_rfl, by kernel_rfl, by kernel_rfl, by kernel_rfl⟩ ?_ ?_ ?_ ?_
    · rw [← Pinned.isPrint16_eq]; exact Lib.laidMet.reads h (by simp [laidL, Rows.fnCounterPolicyLiveExactlyRow, Rows.laid_strconv_isPrint16])
    · rw [← Pinned.isNotPrint16_eq]; exact Lib.laidMet.reads h (by simp [laidL, Rows.fnCounterPolicyLiveExactlyRow, Rows.laid_strconv_isNotPrint16])
    · rw [← Pinned.isPrint32_eq]; exact Lib.laidMet.reads h (by simp [laidL, Rows.fnCounterPolicyLiveExactlyRow, Rows.laid_strconv_isPrint32])
    · rw [← Pinned.isNotPrint32_eq]; exact Lib.laidMet.reads h (by simp [laidL, Rows.fnCounterPolicyLiveExactlyRow, Rows.laid_strconv_isNotPrint32])
  · refine utf8Tabs_of_reads (ρ := Tryf.lays177_ren) { Tryf.lays177 with } ⟨by kernel_rfl, by kernel_rfl, by kernel_rfl, by kernel_rfl, by kernel_rfl, by kernel_rfl, by kernel_rfl⟩ ?_ ?_
    · rw [← first_eq]; exact Lib.laidMet.reads h (by simp [laidL, Rows.fnCounterPolicyLiveExactlyRow])
    · rw [← accept_eq]; exact Lib.laidMet.reads h (by simp [laidL, Rows.fnCounterPolicyLiveExactlyRow])

/-- A slice of strings that came in, as the walks want it. -/
theorem row_of_trod {H : Type} {enc : TypeId × Value → H} {W : World} {a : Option Addr} {n cap : Nat} {d : DataW H} {p : List MemPlace} (h : DataW.Trod enc Tryf.prog W 0 (fun _ => true) true 22 (.slice a n cap) d p) :
    ∃ S, Row W a n S ∧ (a = none → n = 0 ∧ cap = 0) ∧ n ≤ maxLen := by
  obtain ⟨fuel, hf⟩ := h
  rcases open_strings Tryf.underlying22 Tryf.underlying9 (by kernel_rfl) hf with ⟨hcs, _⟩ | ⟨x, l, c, ss, hcs, _, hl, hm, hz, _, hcell, hws⟩
  · simp [Value.cells] at hcs
    obtain ⟨rfl, rfl, rfl⟩ := hcs
    exact ⟨fun _ => ByteArray.empty, (fun j hj => by omega), (fun _ => ⟨rfl, rfl⟩), Nat.zero_le _⟩
  · simp [Value.cells] at hcs
    obtain ⟨rfl, rfl, rfl⟩ := hcs
    have hz' : ss.length = cap := by simpa using hz
    refine ⟨fun j => ss.getD j ByteArray.empty, (fun j hj => ?_), (fun h => by cases h), by omega⟩
    have hc := hcell j (by omega)
    obtain ⟨b, off, spot⟩ := x
    have hspot : spot = none := by simpa [Addr.add] using World.cell?_spot (hcell 0 (by omega))
    subst hspot
    refine ⟨b, off, rfl, ?_, ?_⟩
    · rw [← add_plain]; exact hc
    · have hj' : j < ss.length := by omega
      have : ss.getD j ByteArray.empty = ss[j] := by simp [List.getD, List.getElem?_eq_getElem hj']
      show (ss.getD j ByteArray.empty).size ≤ maxLen
      rw [this]
      exact hws _ (List.getElem_mem hj')

theorem i64_bounds {x : Int} (h : (Lit.int .i64 x).wf = true) : -9223372036854775808 ≤ x ∧ x ≤ 9223372036854775807 := by
  have e1 : IntKind.i64.min = -9223372036854775808 := rfl
  have e2 : IntKind.i64.max = 9223372036854775807 := rfl
  simp [Lit.wf, e1, e2] at h
  omega

/-- A start that fits, over a stop, in a world given by hand (its shape shown apart). -/
theorem start_of {H : Type} {enc : TypeId × Value → H} {C : Checked} {os : Os} {f : FuncId} {fn : Func} {s : OpenSpec} {laid : List (String × DataW Unit)} (w0 : World) (args : Array Value) (hos : w0.os = os)
    (hsh : (w0.forCall (fun _ _ => 0) ⟨#[], args, []⟩).Shaped C.prog)
    (hok : Input.okWideB C.prog (w0.forCall (fun _ _ => 0) ⟨#[], args, []⟩) f ⟨#[], args, []⟩ = true)
    (hrow : s.preRow enc C.prog fn [] false laid (w0.forCall (fun _ _ => 0) ⟨#[], args, []⟩).memory args) (F : Interp) :
    ∃ (w : World) (tape : Tape) (i : Input), w.os = os ∧ (w.forCall tape i).Shaped C.prog ∧ i.vars = [] ∧ Input.okWide C.prog (w.forCall tape i) .any w.heap.size f i ∧
      s.preRow enc C.prog fn [] false laid (w.forCall tape i).memory i.args ∧ ({} : Assume).holds C.prog (lone (Frame.enter C.prog f i.args .normal) [] (w.forCall tape i)) ∧ F.answers tape :=
  ⟨w0, F.over fun _ _ => 0, ⟨#[], args, []⟩, hos, hsh, (Input.okWide_of_okWideB (base := 0) hok).1, (Input.okWide_of_okWideB hok).2, hrow, by
    simp only [Assume.holds]
    exact ⟨by simp, by simp, fun _ => F.over_modest Modest.zero, by simp, by simp⟩, F.over_answers _⟩

set_option maxRecDepth 1000000 in
theorem laid_shown (os : Os) (args : Array Value) : laidMetH Tryf.prog laidL ((World.laidAll Tryf.prog os laidL).forCall (fun _ _ => 0) ⟨#[], args, []⟩).memory := by
  rw [MakeChecks.laidMetH_plain _ _ _ (by kernel_rfl)]
  exact laidMet_laidAll _ (by kernel_rfl) (by kernel_rfl)
end Go.Proofs.Qxb6615671aFmt
