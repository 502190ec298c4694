import Derived.Test.Qxb6609067aFmtScan
import Derived.Test.Qxb6609067aFmtPlainB
import Derived.Deep.RegionLaw
import Derived.Deep.QuietTactic
import Derived.BigQuiet
namespace Go.Proofs.Qxb6609067aFmt
open Go.RowKit

/-- Has the first word a sign of equality? -/
def hasEq (s : ByteArray) : Bool := match (allW s).1 with | [] => false | t :: _ => decide (0 ≤ t.2.2)

def BoolPost (b : Bool) (w : World) (e : Ending) (w' : World) : Prop := e = .returned (.bool b) ∧ Below w.heap.size w w'

theorem hasEq_nil {s : ByteArray} (h : (allW s).1 = []) : hasEq s = false := by unfold hasEq; rw [h]
theorem hasEq_cons {s : ByteArray} {t : Int × Int × Int} {r : List (Int × Int × Int)} (h : (allW s).1 = t :: r) : hasEq s = decide (0 ≤ t.2.2) := by unfold hasEq; rw [h]

set_option maxHeartbeats 1000000 in
theorem nameHasEq_any (s : ByteArray) (w : World) (hs : s.size ≤ 1048576) : Calls Tryf.prog 16 #[.string s] w (BoolPost (hasEq s) w) := by
  have HS := hide (scan_any s w hs)
  unfold ScanPost at HS
  generalize (allW s).2 = cl at HS
  cases hw : (allW s).1 with
  | nil =>
    rw [hasEq_nil hw]
    rw [hw] at HS
    go_enter Tryf.func16, Tryf.ntmps16
    go_wp2_with fail
    refine (unhide HS).mono ?_
    rintro e w1 ⟨v1, v2, v3, rfl, h1, h2, h3, hb⟩
    obtain ⟨a1, c1, rfl, _⟩ := h1
    obtain ⟨a2, c2, rfl, _⟩ := h2
    obtain ⟨a3, c3, rfl, hc3, hn3, hcell3⟩ := h3
    have hb' := hide hb
    clear hb
    simp only [List.map_nil, List.length_nil]
    go_wp2
    go_ret
    exact ⟨rfl, unhide hb'⟩
  | cons t r =>
    rw [hasEq_cons hw]
    rw [hw] at HS
    clear hw
    go_enter Tryf.func16, Tryf.ntmps16
    go_wp2_with fail
    refine (unhide HS).mono ?_
    rintro e w1 ⟨v1, v2, v3, rfl, h1, h2, h3, hb⟩
    obtain ⟨a1, c1, rfl, _⟩ := h1
    obtain ⟨a2, c2, rfl, _⟩ := h2
    obtain ⟨a3, c3, rfl, hc3, hn3, hcell3⟩ := h3
    have hb' := hide hb
    obtain ⟨b, o, rfl, hcl⟩ := hcell3 0 t.2.2 rfl
    simp only [List.map_cons, List.length_cons]
    simp only [Nat.add_zero] at hcl
    clear hcell3 hn3 hc3 hb HS
    by_cases h0 : 0 ≤ t.2.2
    · go_wp2
      go_ret
      exact ⟨by simp [h0], unhide hb'⟩
    · go_wp2
      go_ret
      exact ⟨by simp [h0], unhide hb'⟩

end Go.Proofs.Qxb6609067aFmt
