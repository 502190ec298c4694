import Derived.Test.Qxb6609067aFmtUnit
import Derived.Deep.QuietTactic
import Derived.BigQuiet
namespace Go.Proofs.Qxb6609067aFmt
open Go.RowKit

theorem eqStep_hit (s : ByteArray) (k : Nat) (h : k < s.size) (hc : s[k] = 61) : Pl.eqAt 0 k (s.data.toList.drop k) = k := by
  rw [drop_byte s k h, Pl.eqAt_hit _ _ _ hc]

theorem eqStep_none (s : ByteArray) (k : Nat) (h : k < s.size) (hc : s[k] ≠ 61) (hu : Pl.unitLen (s.data.toList.drop k) = none) : Pl.eqAt 0 k (s.data.toList.drop k) = -1 := by
  rw [drop_byte s k h] at hu ⊢
  exact Pl.eqAt_none _ _ _ hc hu

theorem eqStep_some (s : ByteArray) (k n : Nat) (h : k < s.size) (hc : s[k] ≠ 61) (hu : Pl.unitLen (s.data.toList.drop k) = some n) : Pl.eqAt 0 k (s.data.toList.drop k) = Pl.eqAt 0 (k + n) (s.data.toList.drop (k + n)) ∧ 1 ≤ n ∧ k + n ≤ s.size := by
  have hle := Pl.unitLen_le _ (by rw [drop_byte s k h]; simp) n hu
  have hl : (s.data.toList.drop k).length = s.size - k := by simp
  refine ⟨?_, hle.1, by omega⟩
  rw [drop_byte s k h] at hu ⊢
  rw [Pl.eqAt_some _ _ _ n hc hu, Pl.eqAt_skip _ _ _ (by simp at hle ⊢; omega), List.drop_drop]
  congr 1
  · omega
  · congr 1; omega

def SplitPost (s : ByteArray) (w : World) (e : Ending) (w' : World) : Prop :=
  (∃ n, w' = w.drewN n) ∧ ((Pl.eqAt 0 0 s.data.toList = -1 ∧ e = .returned (.tuple #[.string s, .string ⟨#[]⟩, .bool false])) ∨
    (∃ q : Nat, Pl.eqAt 0 0 s.data.toList = q ∧ q < s.size ∧ e = .returned (.tuple #[.string (s.extract 0 q), .string (s.extract (q + 1) s.size), .bool true])))

set_option maxHeartbeats 1000000 in
theorem split_any (s : ByteArray) (w : World) (hs : s.size ≤ 1048576) : Calls Tryf.prog 37 #[.string s] w (SplitPost s w) := by
  go_enter Tryf.func37, Tryf.ntmps37
  go_wp2
  go_loop [5] (fun iv => ∃ k : Nat, k ≤ s.size ∧ iv = .int .i64 k ∧ Hid (Pl.eqAt 0 0 s.data.toList = Pl.eqAt 0 k (s.data.toList.drop k))) (fun iv => s.size + 1 - (intOf iv).toNat)
  case atStart => exact ⟨0, Nat.zero_le _, rfl, by simp [Hid]⟩
  case round =>
    obtain ⟨k, hk, rfl, hv⟩ := hrel
    by_cases hlt : k < s.size
    · by_cases h61 : s[k] = 61
      · have hv' := hide ((unhide hv).trans (eqStep_hit s k hlt h61))
        have hn : (s[k].toNat : Int) = 61 := by rw [h61]; rfl
        clear hv h61
        go_wp2
        go_quiet (fail)
        go_wp2
        go_ret3
        exact ⟨⟨_, rfl⟩, .inr ⟨k, unhide hv', hlt, rfl⟩⟩
      · have hn : ((s[k].toNat : Int) == 61) = false := byte_nq h61 (n := 61) (by decide)
        have HU := hide (unit_any s k w hs hlt)
        cases hu : Pl.unitLen (s.data.toList.drop k) with
        | none =>
          have hv' := hide ((unhide hv).trans (eqStep_none s k hlt h61 hu))
          have he : Hid (Pl.unitEnd s.data.toList k = -1) := by simp only [Hid, Pl.unitEnd, hu]
          clear hv h61 hu
          go_wp2_with fail
          refine (unhide HU).mono ?_
          rintro e w' ⟨rfl, rfl⟩
          rw [unhide he]
          go_wp2
          go_ret3
          exact ⟨⟨0, rfl⟩, .inl ⟨unhide hv', rfl⟩⟩
        | some n =>
          obtain ⟨h1, hn1, hn2⟩ := eqStep_some s k n hlt h61 hu
          have hv' := hide ((unhide hv).trans h1)
          have he : Hid (Pl.unitEnd s.data.toList k = ((k + n : Nat) : Int)) := by simp only [Hid, Pl.unitEnd, hu]
          clear hv h61 hu h1
          go_wp2_with fail
          refine (unhide HU).mono ?_
          rintro e w' ⟨rfl, rfl⟩
          rw [unhide he]
          go_wp2
          go_round
          case rel => exact ⟨k + n, by omega, by go_num, hv'⟩
          case measure => simp [intOf]; omega
    · have hv' : Hid (Pl.eqAt 0 0 s.data.toList = -1) := by
        have := unhide hv
        rw [drop_end s k (by omega)] at this
        exact this
      clear hv
      go_wp2
      go_ret3
      exact ⟨⟨0, rfl⟩, .inl ⟨unhide hv', rfl⟩⟩
end Go.Proofs.Qxb6609067aFmt
