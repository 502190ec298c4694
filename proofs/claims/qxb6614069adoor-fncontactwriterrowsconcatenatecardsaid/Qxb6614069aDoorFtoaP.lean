import Derived.Test.Qxb6614069aDoorFtoa
namespace Go.Proofs.Qxb6614069aDoor
open Go.RowKit Go.Lib

theorem decDigits_mul10 (u : Nat) (h : 1 ≤ u) : decDigits (u * 10) = decDigits u ++ [48] := by
  rw [decDigits, dif_neg (by omega), Nat.mul_div_cancel _ (by decide), Nat.mul_mod_left]
  rfl

theorem decDigits_pow10 (u : Nat) (h : 1 ≤ u) : ∀ t, decDigits (u * 10 ^ t) = decDigits u ++ List.replicate t 48
  | 0 => by simp
  | t + 1 => by
    have hp : 1 ≤ u * 10 ^ t := Nat.mul_pos h (Nat.pow_pos (by decide))
    rw [Nat.pow_succ, ← Nat.mul_assoc, decDigits_mul10 _ hp, decDigits_pow10 u h t, List.append_assoc, List.replicate_succ']

theorem efText_int (S : Bool) (N t : Nat) (h : 1 ≤ N) : efText S (decDigits N) ((nDigits N + t : Nat) : Int) = (if S then [45] else []) ++ decDigits (N * 10 ^ t) ++ [46, 48, 48] := by
  have hp := nDigits_pos N
  have hl := decDigits_length N
  unfold efText
  have e1 : efInt (decDigits N) ((nDigits N + t : Nat) : Int) = decDigits (N * 10 ^ t) := by
    unfold efInt
    rw [if_pos (by omega), Int.toNat_natCast, hl, List.take_of_length_le (by omega), decDigits_pow10 N h]
    congr 2
    omega
  have z1 : efLz ((nDigits N + t : Nat) : Int) = 0 := by unfold efLz; omega
  have z2 : efM ((nDigits N + t : Nat) : Int) (decDigits N).length = 0 := by unfold efM; rw [z1, hl]; omega
  have z3 : efTz ((nDigits N + t : Nat) : Int) (decDigits N).length = 2 := by unfold efTz; rw [z1, z2]
  have e2 : efFrac (decDigits N) ((nDigits N + t : Nat) : Int) = [48, 48] := by
    unfold efFrac
    rw [z1, z2, z3]
    rfl
  rw [e1, e2]
  simp

theorem efFrac_length (ds : List UInt8) (dp : Int) : (efFrac ds dp).length ≤ 2 := by
  have h1 : efLz dp ≤ 2 := by unfold efLz; omega
  have h2 : efM dp ds.length ≤ 2 - efLz dp := by unfold efM; omega
  unfold efFrac
  simp only [List.length_append, List.length_replicate, List.length_take]
  unfold efTz
  omega

theorem efInt_length (ds : List UInt8) (dp : Int) : (efInt ds dp).length ≤ max 1 dp.toNat := by
  unfold efInt
  split
  · simp only [List.length_append, List.length_replicate, List.length_take]; omega
  · simp; omega

theorem efText_length (S : Bool) (ds : List UInt8) (dp : Int) : (efText S ds dp).length ≤ 4 + max 1 dp.toNat := by
  have h1 := efFrac_length ds dp
  have h2 := efInt_length ds dp
  unfold efText
  cases S <;> simp <;> omega

theorem isDig48 : isDig 48 := by unfold isDig; decide

theorem efInt_dig (ds : List UInt8) (dp : Int) (h : ∀ c ∈ ds, isDig c) : ∀ c ∈ efInt ds dp, isDig c := by
  intro c hc
  unfold efInt at hc
  split at hc
  · rcases List.mem_append.1 hc with hc | hc
    · exact h c (List.mem_of_mem_take hc)
    · rw [(List.mem_replicate.1 hc).2]; exact isDig48
  · rw [List.mem_singleton.1 hc]; exact isDig48

theorem efFrac_dig (ds : List UInt8) (dp : Int) (h : ∀ c ∈ ds, isDig c) : ∀ c ∈ efFrac ds dp, isDig c := by
  intro c hc
  unfold efFrac at hc
  rcases List.mem_append.1 hc with hc | hc
  · rcases List.mem_append.1 hc with hc | hc
    · rw [(List.mem_replicate.1 hc).2]; exact isDig48
    · exact h c (List.mem_of_mem_drop (List.mem_of_mem_take hc))
  · rw [(List.mem_replicate.1 hc).2]; exact isDig48

theorem isDig_ne {c : UInt8} (h : isDig c) : c ≠ 10 ∧ c ≠ 44 := by
  refine ⟨?_, ?_⟩ <;> (rintro rfl; revert h; unfold isDig; decide)

theorem efText_bytes (S : Bool) (ds : List UInt8) (dp : Int) (h : ∀ c ∈ ds, isDig c) : ∀ c ∈ efText S ds dp, c ≠ 10 ∧ c ≠ 44 := by
  intro c hc
  unfold efText at hc
  rcases List.mem_append.1 hc with hc | hc
  · rcases List.mem_append.1 hc with hc | hc
    · rcases List.mem_append.1 hc with hc | hc
      · cases S
        · simp at hc
        · have : c = 45 := by simpa using hc
          subst this; decide
      · exact isDig_ne (efInt_dig ds dp h c hc)
    · rw [List.mem_singleton.1 hc]; decide
  · exact isDig_ne (efFrac_dig ds dp h c hc)

end Go.Proofs.Qxb6614069aDoor
