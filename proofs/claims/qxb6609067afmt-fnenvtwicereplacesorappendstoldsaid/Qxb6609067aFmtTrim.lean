import Derived.Test.Qxb6609067aFmtSpaceB
import Derived.Test.Qxb6609067aFmtPlainC
namespace Go.Proofs.Qxb6609067aFmt
open Go.RowKit

theorem hsF_le (l : List UInt8) : hsF l ≤ l.length := by
  match l with
  | [] => exact Nat.le_refl _
  | [a] => simp only [hsF, List.length_cons, List.length_nil]; split <;> omega
  | [a, b] => simp only [hsF, List.length_cons, List.length_nil]; repeat' split
              all_goals omega
  | a :: b :: c :: r => simp only [hsF, List.length_cons]; repeat' split
                        all_goals omega

theorem tsF_le (l : List UInt8) : tsF l ≤ l.length := by
  match l with
  | [] => exact Nat.le_refl _
  | [a] => simp only [tsF, List.length_cons, List.length_nil]; split <;> omega
  | [a, b] => simp only [tsF, List.length_cons, List.length_nil]; repeat' split
              all_goals omega
  | a :: b :: c :: r => simp only [tsF, List.length_cons]; repeat' split
                        all_goals omega

theorem head_le (l : List UInt8) : Lib.headSpace l ≤ l.length := by rw [headSpace_eq]; exact hsF_le l
theorem tail_le (l : List UInt8) : Lib.tailSpace l ≤ l.length := by rw [tailSpace_eq]; have := tsF_le l.reverse; simpa using this

/-- A stretch of the text. -/
def stretch (l : List UInt8) (lo hi : Nat) : List UInt8 := (l.drop lo).take (hi - lo)

def TrimPost (s : ByteArray) (w : World) (e : Ending) (w' : World) : Prop := e = .returned (.string ⟨(Lib.trimSpaceU s.data.toList).toArray⟩) ∧ w' = w

theorem stripR_zero (f : Nat) (l : List UInt8) (h : l = []) : Lib.stripR f l = [] := by
  subst h
  cases f with
  | zero => rfl
  | succ f => rw [Lib.stripR, if_pos (by decide)]

theorem stripL_zero (f : Nat) (l : List UInt8) (h : l = []) : Lib.stripL f l = [] := by
  subst h
  cases f with
  | zero => rfl
  | succ f => rw [Lib.stripL, if_pos (by decide)]

set_option maxRecDepth 100000 in
set_option maxHeartbeats 4000000 in
theorem trimSpace_any (s : ByteArray) (w : World) (hs : s.size ≤ 1048576) : Calls Tryf.prog 21 #[.string s] w (TrimPost s w) := by
  obtain ⟨L, hL0⟩ : ∃ L, L = Lib.stripL s.data.toList.length s.data.toList := ⟨_, rfl⟩
  have hU : Hid (Lib.trimSpaceU s.data.toList = Lib.stripR s.data.toList.length L) := by rw [hL0]; rfl
  have hlen : s.data.toList.length = s.size := by simp
  rw [hlen] at hU hL0
  have hL := hide hL0
  clear hL0 hlen
  go_enter Tryf.func21, Tryf.ntmps21
  go_wp2
  go_loop [3] (fun iv => ∃ k f : Nat, k ≤ s.size ∧ s.size - k ≤ f ∧ iv = .int .i64 k ∧ Hid (L = Lib.stripL f (s.data.toList.drop k))) (fun iv => s.size - (intOf iv).toNat)
  case atStart => exact ⟨0, s.size, Nat.zero_le _, by omega, rfl, by simpa using hL⟩
  case round =>
    obtain ⟨lo, f, hlo, hf, rfl, hv⟩ := hrel
    clear hL
    have KEY : lo = s.size ∨ Lib.headSpace (s.data.toList.drop lo) = 0 → Hid (L = s.data.toList.drop lo) := by
      intro h
      have := unhide hv
      rcases h with h | h
      · rw [drop_end s lo (by omega)] at this ⊢
        rw [this, stripL_zero _ _ rfl]; exact rfl
      · cases f with
        | zero => exact this
        | succ f => rw [Lib.stripL, if_pos h] at this; exact this
    by_cases hA : lo < s.size ∧ Lib.headSpace (s.data.toList.drop lo) ≠ 0
    · obtain ⟨hlt, h0⟩ := hA
      have HA := hide (spaceAt_any s lo w hs hlt)
      have hle := head_le (s.data.toList.drop lo)
      have hle' : Lib.headSpace (s.data.toList.drop lo) ≤ s.size - lo := by simpa using hle
      have hv' : ∃ f', s.size - (lo + Lib.headSpace (s.data.toList.drop lo)) ≤ f' ∧ Hid (L = Lib.stripL f' (s.data.toList.drop (lo + Lib.headSpace (s.data.toList.drop lo)))) := by
        have := unhide hv
        cases f with
        | zero => omega
        | succ f =>
          rw [Lib.stripL, if_neg h0, List.drop_drop] at this
          exact ⟨f, by omega, this⟩
      generalize Lib.headSpace (s.data.toList.drop lo) = n at *
      obtain ⟨f', hf', hv2⟩ := hv'
      have hnb : ((n : Int) == 0) = false := by rw [beq_eq_false_iff_ne]; omega
      clear KEY hv hle
      go_wp2_with fail
      refine (unhide HA).mono ?_
      rintro e w' ⟨rfl, rfl⟩
      go_wp2
      go_round
      case rel => exact ⟨lo + n, f', by omega, hf', by go_num, hv2⟩
      case measure => simp [intOf]; omega
    · have hLL := KEY (by rcases Classical.em (lo < s.size) with h | h
                          · exact .inr (Classical.byContradiction fun hn => hA ⟨h, hn⟩)
                          · exact .inl (by omega))
      have hU2 : Hid (Lib.trimSpaceU s.data.toList = Lib.stripR s.size (stretch s.data.toList lo s.size)) := by
        have h1 := unhide hU
        have h2 := unhide hLL
        have hlen : s.data.toList.length = s.size := by simp
        rw [h1, h2, stretch, List.take_of_length_le (by rw [List.length_drop, hlen]; exact Nat.le_refl _)]
        exact rfl
      clear KEY hv hLL hU
      by_cases hlt : lo < s.size
      all_goals first
        | (have h0 : Lib.headSpace (s.data.toList.drop lo) = 0 := Classical.byContradiction fun hn => hA ⟨hlt, hn⟩
           have HA := hide (spaceAt_any s lo w hs hlt)
           rw [h0] at HA
           clear hA h0
           go_wp2_with fail
           refine (unhide HA).mono ?_
           rintro e w' ⟨rfl, rfl⟩
           rename World => w
           clear HA
           go_wp2)
        | (clear hA
           go_wp2)
      all_goals (
        go_loop [5] (fun iv => ∃ hi f : Nat, lo ≤ hi ∧ hi ≤ s.size ∧ hi - lo ≤ f ∧ iv = .int .i64 hi ∧ Hid (Lib.trimSpaceU s.data.toList = Lib.stripR f (stretch s.data.toList lo hi))) (fun iv => (intOf iv).toNat)
        case atStart => exact ⟨s.size, s.size, hlo, Nat.le_refl _, by omega, rfl, hU2⟩
        case round =>
          obtain ⟨hi, f2, hlh, hhi, hf2, rfl, hv3⟩ := hrel
          clear hU2
          have KEY2 : hi = lo ∨ Lib.tailSpace (stretch s.data.toList lo hi) = 0 → TrimPost s w (.returned (.string (s.extract lo hi))) w := by
            intro h
            have hu := unhide hv3
            have hx : Lib.trimSpaceU s.data.toList = stretch s.data.toList lo hi := by
              rcases h with h | h
              · have he : stretch s.data.toList lo hi = [] := by subst h; simp [stretch]
                rw [hu, he, stripR_zero _ _ rfl]
              · cases f2 with
                | zero => exact hu
                | succ f2 => rw [Lib.stripR, if_pos h] at hu; exact hu
            refine ⟨?_, rfl⟩
            congr 2
            apply ba_ext
            rw [hx]
            simp [stretch]
          by_cases hB : lo < hi ∧ Lib.tailSpace (stretch s.data.toList lo hi) ≠ 0
          · obtain ⟨hlt2, h02⟩ := hB
            have HB := hide (before_any s lo hi w hs hlt2 hhi)
            have hle := tail_le (stretch s.data.toList lo hi)
            have hle' : Lib.tailSpace (stretch s.data.toList lo hi) ≤ hi - lo := by
              refine Nat.le_trans hle ?_
              rw [stretch, List.length_take]; omega
            have hv' : ∃ f', hi - Lib.tailSpace (stretch s.data.toList lo hi) - lo ≤ f' ∧ Hid (Lib.trimSpaceU s.data.toList = Lib.stripR f' (stretch s.data.toList lo (hi - Lib.tailSpace (stretch s.data.toList lo hi)))) := by
              have hu := unhide hv3
              cases f2 with
              | zero => omega
              | succ f2 =>
                rw [Lib.stripR, if_neg h02] at hu
                refine ⟨f2, by omega, ?_⟩
                rw [hu]
                have hl : (stretch s.data.toList lo hi).length = hi - lo := by
                  rw [stretch, List.length_take, List.length_drop]
                  have : s.data.toList.length = s.size := by simp
                  omega
                rw [hl]
                have : (stretch s.data.toList lo hi).take (hi - lo - Lib.tailSpace (stretch s.data.toList lo hi)) = stretch s.data.toList lo (hi - Lib.tailSpace (stretch s.data.toList lo hi)) := by
                  generalize Lib.tailSpace (stretch s.data.toList lo hi) = n at *
                  rw [stretch, stretch, List.take_take]; congr 1; omega
                rw [this]
                exact rfl
            change Hid (Calls Tryf.prog 33 _ w (IntPost (Lib.tailSpace (stretch s.data.toList lo hi) : Nat) w)) at HB
            generalize Lib.tailSpace (stretch s.data.toList lo hi) = n at *
            obtain ⟨f', hf', hv4⟩ := hv'
            have hnb : ((n : Int) == 0) = false := by rw [beq_eq_false_iff_ne]; omega
            clear KEY2 hv3 hle
            go_wp2_with fail
            refine (unhide HB).mono ?_
            rintro e w' ⟨rfl, rfl⟩
            clear HB
            go_wp2
            go_round
            case rel => exact ⟨hi - n, f', by omega, by omega, hf', by go_num, hv4⟩
            case measure => simp [intOf]; omega
          · have hK := KEY2 (by rcases Classical.em (lo < hi) with h | h
                                · exact .inr (Classical.byContradiction fun hn => hB ⟨h, hn⟩)
                                · exact .inl (by omega))
            clear KEY2 hv3
            by_cases hlt2 : lo < hi
            · have h02 : Lib.tailSpace (stretch s.data.toList lo hi) = 0 := Classical.byContradiction fun hn => hB ⟨hlt2, hn⟩
              have HB := hide (before_any s lo hi w hs hlt2 hhi)
              change Hid (Calls Tryf.prog 33 _ w (IntPost (Lib.tailSpace (stretch s.data.toList lo hi) : Nat) w)) at HB
              rw [h02] at HB
              clear hB h02
              go_wp2_with fail
              refine (unhide HB).mono ?_
              rintro e w' ⟨rfl, rfl⟩
              clear HB
              go_wp2
              go_ret
              exact hK
            · clear hB
              go_wp2
              go_ret
              exact hK)
end Go.Proofs.Qxb6609067aFmt
