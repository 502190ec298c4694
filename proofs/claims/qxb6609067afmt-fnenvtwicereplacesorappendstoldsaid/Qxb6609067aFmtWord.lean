import Derived.Test.Qxb6609067aFmtBase
import Derived.Test.Qxb6609067aFmtPlain
import Derived.Test.Qxb6609067aFmtShelf
namespace Go.Proofs.Qxb6609067aFmt
open Go.RowKit

theorem drop_byte (s : ByteArray) (k : Nat) (h : k < s.size) : s.data.toList.drop k = s[k] :: s.data.toList.drop (k + 1) := by
  rw [List.drop_eq_getElem_cons (by simpa using h)]; rfl

theorem drop_end (s : ByteArray) (k : Nat) (h : s.size ≤ k) : s.data.toList.drop k = [] := List.drop_eq_nil_of_le (by simpa using h)

theorem byte_eq (c : UInt8) (n : Nat) (hn : n < 256) : (((c.toNat : Int) == (n : Int)) = true) ↔ c = UInt8.ofNat n := by
  rw [beq_iff_eq, ← UInt8.toNat_inj, UInt8.toNat_ofNat']
  omega

theorem byte_ne {c d : UInt8} (h : ¬ c = d) {n : Nat} (hd : d = UInt8.ofNat n ∧ n < 256) : ¬ (c.toNat : Int) = (n : Int) := by
  intro e
  apply h
  rw [hd.1, ← UInt8.toNat_inj, UInt8.toNat_ofNat']
  omega

theorem byte_nb {c d : UInt8} (h : ¬ c = d) {n : Nat} (hd : d = UInt8.ofNat n ∧ n < 256) : ((c.toNat : Int) != (n : Int)) = true := by
  rw [bne_iff_ne]; exact byte_ne h hd

theorem byte_nq {c d : UInt8} (h : ¬ c = d) {n : Nat} (hd : d = UInt8.ofNat n ∧ n < 256) : ((c.toNat : Int) == (n : Int)) = false := by
  rw [beq_eq_false_iff_ne]; exact byte_ne h hd

def FwPost (s : ByteArray) (w : World) (e : Ending) (w' : World) : Prop := e = .returned (.string (s.extract 0 (Pl.fw s.data.toList))) ∧ w' = w

set_option maxHeartbeats 400000 in
theorem firstWord_any (s : ByteArray) (w : World) (hs : s.size ≤ 1048576) : Calls Tryf.prog 11 #[.string s] w (FwPost s w) := by
  go_enter Tryf.func11, Tryf.ntmps11
  go_wp2
  go_loop [3] (fun i => ∃ k : Nat, k ≤ s.size ∧ i = .int .i64 k ∧ Hid (Pl.fw s.data.toList = k + Pl.fw (s.data.toList.drop k))) (fun i => s.size - (intOf i).toNat)
  case atStart => exact ⟨0, Nat.zero_le _, rfl, by simp [Hid]⟩
  case round =>
    obtain ⟨k, hk, rfl, hf⟩ := hrel
    by_cases hlt : k < s.size
    · have hd := drop_byte s k hlt
      by_cases h1 : s[k] = 32
      · have hz : Hid (Pl.fw s.data.toList = k) := by
          have h := unhide hf
          rw [hd, Pl.fw, if_pos (Or.inl h1)] at h
          exact h
        have hn : (s[k].toNat : Int) = 32 := by rw [h1]; rfl
        clear h1 hd hf
        go_wp2
        go_ret
        exact ⟨by rw [unhide hz]; rfl, rfl⟩
      · have hn : ((s[k].toNat : Int) != 32) = true := byte_nb h1 (n := 32) (by decide)
        by_cases h2 : s[k] = 9
        · have hz : Hid (Pl.fw s.data.toList = k) := by
            have h := unhide hf
            rw [hd, Pl.fw, if_pos (Or.inr h2)] at h
            exact h
          have hn2 : (s[k].toNat : Int) = 9 := by rw [h2]; rfl
          clear h1 h2 hd hf
          go_wp2
          go_ret
          exact ⟨by rw [unhide hz]; rfl, rfl⟩
        · have hn2 : ((s[k].toNat : Int) != 9) = true := byte_nb h2 (n := 9) (by decide)
          have hz : Hid (Pl.fw s.data.toList = (k + 1) + Pl.fw (s.data.toList.drop (k + 1))) := by
            have h := unhide hf
            rw [hd, Pl.fw, if_neg (by simp [h1, h2])] at h
            simp only [Hid]; omega
          clear h1 h2 hd hf
          go_wp2
          go_round
          case rel => exact ⟨k + 1, by omega, by go_num, hz⟩
          case measure => simp [intOf]; omega
    · have hz : Hid (Pl.fw s.data.toList = k) := by
        have h := unhide hf
        rw [drop_end s k (by omega)] at h
        exact h
      clear hf
      go_wp2
      go_ret
      exact ⟨by rw [unhide hz]; rfl, rfl⟩

/-- What strings.HasPrefix says of an opening brace. -/
theorem hasPrefix_brace (l : List UInt8) : Lib.hasPrefix l [36, 123] = decide (l.head? = some 36 ∧ l.tail.head? = some 123) := by
  unfold Lib.hasPrefix
  match l with
  | [] => rfl
  | [c] => simp [List.isPrefixOf]
  | c :: c2 :: r =>
    rw [Bool.eq_iff_iff]
    simp only [List.isPrefixOf, Bool.and_eq_true, beq_iff_eq, decide_eq_true_eq, List.head?_cons, List.tail_cons, Option.some.injEq, and_true]
    exact ⟨fun h => ⟨h.1.symm, h.2.symm⟩, fun h => ⟨h.1.symm, h.2.symm⟩⟩
end Go.Proofs.Qxb6609067aFmt
