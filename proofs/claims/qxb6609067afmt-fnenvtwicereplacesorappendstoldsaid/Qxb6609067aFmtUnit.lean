import Derived.Test.Qxb6609067aFmtWord
namespace Go.Proofs.Qxb6609067aFmt
open Go.RowKit

/-- The end of the braces whose inside goes on at j at depth d. -/
def brVal (l : List UInt8) (d j : Nat) : Int := match Pl.br false d (l.drop j) with | some n => ((j + n : Nat) : Int) | none => -1

theorem brVal_map1 (l : List UInt8) (d j d' : Nat) (h : Pl.br false d (l.drop j) = (Pl.br false d' (l.drop (j + 1))).map (· + 1)) : brVal l d j = brVal l d' (j + 1) := by
  unfold brVal
  rw [h]
  cases Pl.br false d' (l.drop (j + 1)) with
  | none => rfl
  | some n => simp; omega

theorem brVal_map2 (l : List UInt8) (d j d' : Nat) (h : Pl.br false d (l.drop j) = (Pl.br false d' (l.drop (j + 2))).map (· + 2)) : brVal l d j = brVal l d' (j + 2) := by
  unfold brVal
  rw [h]
  cases Pl.br false d' (l.drop (j + 2)) with
  | none => rfl
  | some n => simp; omega

theorem brVal_end (l : List UInt8) (d j : Nat) (h : l.length ≤ j) : brVal l d j = -1 := by
  unfold brVal
  rw [List.drop_eq_nil_of_le h, Pl.br_nil]

theorem brVal_back (s : ByteArray) (d j : Nat) (h : j < s.size) (hc : s[j] = 92) : brVal s.data.toList d j = brVal s.data.toList d (j + 2) := by
  apply brVal_map2
  rw [drop_byte s j h, Pl.br_back _ _ _ hc]
  by_cases h2 : j + 1 < s.size
  · rw [drop_byte s (j + 1) h2, Pl.br_esc]
    simp [Option.map_map, Function.comp_def]
  · rw [drop_end s (j + 1) (by omega), drop_end s (j + 2) (by omega), Pl.br_nil, Pl.br_nil]
    rfl

theorem brVal_open (s : ByteArray) (d j : Nat) (h : j + 1 < s.size) (hc : s[j] = 36) (hc2 : s[j + 1] = 123) : brVal s.data.toList d j = brVal s.data.toList (d + 1) (j + 2) := by
  apply brVal_map2
  rw [drop_byte s j (by omega), drop_byte s (j + 1) h, Pl.br_open _ _ _ _ hc hc2]

theorem brVal_close (s : ByteArray) (j : Nat) (h : j < s.size) (hc : s[j] = 125) : brVal s.data.toList 1 j = ((j + 1 : Nat) : Int) := by
  unfold brVal
  rw [drop_byte s j (by omega), Pl.br_close _ _ _ hc]
  simp

theorem brVal_less (s : ByteArray) (d j : Nat) (h : j < s.size) (hc : s[j] = 125) (hd : d ≠ 1) : brVal s.data.toList d j = brVal s.data.toList (d - 1) (j + 1) := by
  apply brVal_map1
  rw [drop_byte s j (by omega), Pl.br_close _ _ _ hc, if_neg hd]

theorem brVal_else (s : ByteArray) (d j : Nat) (h : j < s.size) (h1 : s[j] ≠ 92) (h2 : Lib.hasPrefix (s.data.toList.drop j) [36, 123] = false) (h3 : s[j] ≠ 125) : brVal s.data.toList d j = brVal s.data.toList d (j + 1) := by
  apply brVal_map1
  rw [hasPrefix_brace, drop_byte s j (by omega)] at h2
  rw [drop_byte s j (by omega), Pl.br_else _ _ _ h1 (by simpa using h2) h3]

/-- A tail of a string, as a list. -/
theorem tail_list (s : ByteArray) (j : Nat) : (s.extract j s.size).data.toList = s.data.toList.drop j := by
  rw [Lib.extract_to_end]

def IntPost (n : Int) (w : World) (e : Ending) (w' : World) : Prop := e = .returned (.int .i64 n) ∧ w' = w

set_option maxHeartbeats 1000000 in
theorem braceEnd_any (s : ByteArray) (i : Nat) (w : World) (hs : s.size ≤ 1048576) (hi : i + 1 < s.size) (hc1 : s[i] = 36) (hc2 : s[i + 1] = 123) :
    Calls Tryf.prog 59 #[.string s, .int .i64 i] w (IntPost (brVal s.data.toList 0 i) w) := by
  obtain ⟨R, hR0⟩ : ∃ R, R = brVal s.data.toList 0 i := ⟨_, rfl⟩
  rw [← hR0]
  have hR := hide hR0
  clear hR0
  go_enter Tryf.func59, Tryf.ntmps59
  go_wp2
  go_loop [5, 6] (fun dv iv => ∃ d j : Nat, i ≤ j ∧ j ≤ s.size + 1 ∧ d ≤ j ∧ (d = 0 → j = i) ∧ iv = .int .i64 j ∧ dv = .int .i64 d ∧ Hid (R = brVal s.data.toList d j)) (fun _ iv => s.size + 2 - (intOf iv).toNat)
  case atStart => exact ⟨0, i, Nat.le_refl _, by omega, by omega, fun _ => rfl, rfl, rfl, hR⟩
  case round =>
    obtain ⟨d, j, hij, hjs, hdj, hd00, rfl, rfl, hv⟩ := hrel
    clear hR
    have hd0 := hide hd00
    clear hd00
    by_cases hlt : j < s.size
    · have hd1 : Hid (s[j] ≠ 36 → d ≠ 0) := fun h0 e => by
        have := unhide hd0 e
        subst this
        exact h0 hc1
      by_cases h92 : s[j] = 92
      · have hn : (s[j].toNat : Int) = 92 := by rw [h92]; rfl
        have hv' : Hid (R = brVal s.data.toList d (j + 2)) := by rw [← brVal_back s d j hlt h92]; exact hv
        have hd2 := hide (unhide hd1 (by rw [h92]; decide))
        clear hv h92 hd1 hc1 hc2
        go_wp2
        go_round
        case rel => exact ⟨d, j + 2, by omega, by omega, by omega, fun e => absurd e (unhide hd2), by go_num, rfl, hv'⟩
        case measure => simp [intOf]; omega
      · have hn : ((s[j].toNat : Int) == 92) = false := byte_nq h92 (n := 92) (by decide)
        cases hp : Lib.hasPrefix (s.data.toList.drop j) [36, 123] with
        | true =>
          rw [hasPrefix_brace, drop_byte s j hlt] at hp
          simp only [List.head?_cons, List.tail_cons, decide_eq_true_eq, Option.some.injEq] at hp
          obtain ⟨hp1, hp2⟩ := hp
          have hlt2 : j + 1 < s.size := by
            rcases Nat.lt_or_ge (j + 1) s.size with h | h
            · exact h
            · rw [drop_end s (j + 1) h] at hp2; simp at hp2
          rw [drop_byte s (j + 1) hlt2] at hp2
          simp only [List.head?_cons, Option.some.injEq] at hp2
          have hq : Hid (Lib.hasPrefix (s.extract j s.size).data.toList [36, 123] = true) := by
            simp only [Hid]
            rw [tail_list, hasPrefix_brace, drop_byte s j hlt, drop_byte s (j + 1) hlt2]
            simp [hp1, hp2]
          have hv' : Hid (R = brVal s.data.toList (d + 1) (j + 2)) := by rw [← brVal_open s d j hlt2 hp1 hp2]; exact hv
          clear hv h92 hd1 hc1 hc2 hp1 hp2
          go_wp2_with fail
          refine (Tryf.strings_HasPrefix _ _ _).mono ?_
          rintro e w' ⟨rfl, rfl⟩
          rw [unhide hq]
          go_wp2
          go_round
          case rel => exact ⟨d + 1, j + 2, by omega, by omega, by omega, fun e => by omega, by go_num, by go_num, hv'⟩
          case measure => simp [intOf]; omega
        | false =>
          have hq : Hid (Lib.hasPrefix (s.extract j s.size).data.toList [36, 123] = false) := by
            simp only [Hid]
            rw [tail_list]; exact hp
          by_cases h125 : s[j] = 125
          · have hn2 : (s[j].toNat : Int) = 125 := by rw [h125]; rfl
            have hd2 := unhide hd1 (by rw [h125]; decide)
            by_cases hd3 : d = 1
            · have hv' : Hid (R = ((j + 1 : Nat) : Int)) := by
                rw [← brVal_close s j hlt h125, ← hd3]; exact hv
              subst hd3
              clear hv h92 hd1 hc1 hc2 hp h125 hn
              go_wp2_with fail
              refine (Tryf.strings_HasPrefix _ _ _).mono ?_
              rintro e w' ⟨rfl, rfl⟩
              rw [unhide hq]
              go_wp2
              go_ret
              exact ⟨by rw [unhide hv']; rfl, rfl⟩
            · have hv' : Hid (R = brVal s.data.toList (d - 1) (j + 1)) := by rw [← brVal_less s d j hlt h125 hd3]; exact hv
              clear hv h92 hd1 hc1 hc2 hp h125 hn
              go_wp2_with fail
              refine (Tryf.strings_HasPrefix _ _ _).mono ?_
              rintro e w' ⟨rfl, rfl⟩
              rw [unhide hq]
              go_wp2
              go_round
              case rel => exact ⟨d - 1, j + 1, by omega, by omega, by omega, fun e => by omega, by go_num, by go_num, hv'⟩
              case measure => simp [intOf]; omega
          · have hn2 : ((s[j].toNat : Int) == 125) = false := byte_nq h125 (n := 125) (by decide)
            have hv' : Hid (R = brVal s.data.toList d (j + 1)) := by rw [← brVal_else s d j hlt h92 hp h125]; exact hv
            have hd2 : Hid (d ≠ 0) := fun e => by
              have := unhide hd0 e
              subst this
              rw [hasPrefix_brace, drop_byte s j hlt, drop_byte s (j + 1) hi] at hp
              simp [hc1, hc2] at hp
            clear hv h92 hd1 hc1 hc2 hp h125
            go_wp2_with fail
            refine (Tryf.strings_HasPrefix _ _ _).mono ?_
            rintro e w' ⟨rfl, rfl⟩
            rw [unhide hq]
            go_wp2
            go_round
            case rel => exact ⟨d, j + 1, by omega, by omega, by omega, fun e => absurd e (unhide hd2), by go_num, rfl, hv'⟩
            case measure => simp [intOf]; omega
    · have hv' : Hid (R = -1) := by
        rw [← brVal_end s.data.toList d j (by simp; omega)]; exact hv
      clear hv hc1 hc2
      go_wp2
      go_ret
      exact ⟨by rw [unhide hv']; rfl, rfl⟩

/-- The end of a double quote whose inside goes on at j. -/
def dqVal (l : List UInt8) (j : Nat) : Int := match Pl.dq false (l.drop j) with | some n => ((j + n : Nat) : Int) | none => -1

theorem dqVal_end (l : List UInt8) (j : Nat) (h : l.length ≤ j) : dqVal l j = -1 := by
  unfold dqVal
  rw [List.drop_eq_nil_of_le h]; rfl

theorem dqVal_close (s : ByteArray) (j : Nat) (h : j < s.size) (hc : s[j] = 34) : dqVal s.data.toList j = ((j + 1 : Nat) : Int) := by
  unfold dqVal
  rw [drop_byte s j h, Pl.dq, hc]
  rfl

theorem dqVal_back (s : ByteArray) (j : Nat) (h : j < s.size) (hc : s[j] = 92) : dqVal s.data.toList j = dqVal s.data.toList (j + 2) := by
  unfold dqVal
  rw [drop_byte s j h, Pl.dq, if_neg (by simp), if_pos hc]
  by_cases h2 : j + 1 < s.size
  · rw [drop_byte s (j + 1) h2, Pl.dq, if_pos rfl]
    cases Pl.dq false (s.data.toList.drop (j + 2)) with
    | none => rfl
    | some n => simp; omega
  · rw [drop_end s (j + 1) (by omega), drop_end s (j + 2) (by omega)]
    rfl

theorem dqVal_else (s : ByteArray) (j : Nat) (h : j < s.size) (hc : s[j] ≠ 92) (hc2 : s[j] ≠ 34) : dqVal s.data.toList j = dqVal s.data.toList (j + 1) := by
  unfold dqVal
  rw [drop_byte s j h, Pl.dq, if_neg (by simp), if_neg hc, if_neg hc2]
  cases Pl.dq false (s.data.toList.drop (j + 1)) with
  | none => rfl
  | some n => simp; omega

theorem sq_index (l : List UInt8) : Lib.indexByte l 39 = match Pl.sq l with | some n => (n : Int) - 1 | none => -1 := by
  induction l with
  | nil => rfl
  | cons c r ih =>
    rw [Lib.indexByte, Pl.sq]
    by_cases hc : c = 39
    · simp [hc]
    · rw [if_neg (by simpa using hc), if_neg hc, ih]
      cases hq : Pl.sq r with
      | none => rfl
      | some n =>
        have := (Pl.sq_le r n hq).1
        simp only [Option.map_some]
        rw [if_neg (by rw [beq_iff_eq]; omega)]
        simp

theorem unit_back (s : ByteArray) (i : Nat) (h : i + 1 < s.size) (hc : s[i] = 92) : Pl.unitEnd s.data.toList i = (i : Int) + 2 := by
  unfold Pl.unitEnd
  rw [drop_byte s i (by omega), Pl.unitLen, if_pos ⟨hc, by rw [drop_byte s (i + 1) h]; simp⟩]
  rfl

theorem unit_sq (s : ByteArray) (i : Nat) (h : i < s.size) (hc : s[i] = 39) : Pl.unitEnd s.data.toList i = if Lib.indexByte (s.data.toList.drop (i + 1)) 39 < 0 then -1 else (i : Int) + 1 + Lib.indexByte (s.data.toList.drop (i + 1)) 39 + 1 := by
  unfold Pl.unitEnd
  rw [drop_byte s i (by omega), Pl.unitLen, if_neg (by rw [hc]; simp), if_pos hc, sq_index]
  cases hq : Pl.sq (s.data.toList.drop (i + 1)) with
  | none => simp
  | some n =>
    have := (Pl.sq_le _ n hq).1
    simp only [Option.map_some]
    rw [if_neg (by omega)]
    omega

theorem unit_dq (s : ByteArray) (i : Nat) (h : i < s.size) (hc : s[i] = 34) : Pl.unitEnd s.data.toList i = dqVal s.data.toList (i + 1) := by
  unfold Pl.unitEnd dqVal
  rw [drop_byte s i (by omega), Pl.unitLen, if_neg (by rw [hc]; simp), if_neg (by rw [hc]; decide), if_pos hc]
  cases Pl.dq false (s.data.toList.drop (i + 1)) with
  | none => rfl
  | some n => simp; omega

theorem unit_br (s : ByteArray) (i : Nat) (h : i + 1 < s.size) (hc : s[i] = 36) (hc2 : s[i + 1] = 123) : Pl.unitEnd s.data.toList i = brVal s.data.toList 0 i := by
  rw [brVal_open s 0 i h hc hc2]
  unfold Pl.unitEnd brVal
  rw [drop_byte s i (by omega), Pl.unitLen, if_neg (by rw [hc]; simp), if_neg (by rw [hc]; decide), if_neg (by rw [hc]; decide), if_pos ⟨hc, by rw [drop_byte s (i + 1) h, hc2]; rfl⟩, drop_byte s (i + 1) h, List.tail_cons]
  cases Pl.br false 1 (s.data.toList.drop (i + 1 + 1)) with
  | none => rfl
  | some n => simp; omega

theorem unit_one (s : ByteArray) (i : Nat) (h : i < s.size) (h1 : s[i] = 92 → s.size ≤ i + 1) (h2 : s[i] ≠ 39) (h3 : s[i] ≠ 34) (h4 : Lib.hasPrefix (s.data.toList.drop i) [36, 123] = false) : Pl.unitEnd s.data.toList i = (i : Int) + 1 := by
  unfold Pl.unitEnd
  rw [hasPrefix_brace, drop_byte s i h] at h4
  rw [drop_byte s i h, Pl.unitLen, if_neg (fun e => e.2 (drop_end s _ (h1 e.1))), if_neg h2, if_neg h3, if_neg (by simpa using h4)]
  rfl

set_option maxHeartbeats 1000000 in
theorem unit_dq_walk (s : ByteArray) (i : Nat) (w : World) (hs : s.size ≤ 1048576) (hi : i < s.size) (hc : s[i] = 34) : Calls Tryf.prog 43 #[.string s, .int .i64 i] w (IntPost (dqVal s.data.toList (i + 1)) w) := by
  obtain ⟨R, hR0⟩ : ∃ R, R = dqVal s.data.toList (i + 1) := ⟨_, rfl⟩
  rw [← hR0]
  have hR := hide hR0
  clear hR0
  have hn : (s[i].toNat : Int) = 34 := by rw [hc]; rfl
  clear hc
  go_enter Tryf.func43, Tryf.ntmps43
  go_wp2
  go_loop [6] (fun iv => ∃ j : Nat, i < j ∧ j ≤ s.size + 1 ∧ iv = .int .i64 j ∧ Hid (R = dqVal s.data.toList j)) (fun iv => s.size + 2 - (intOf iv).toNat)
  case atStart => exact ⟨i + 1, by omega, by omega, by go_num, hR⟩
  case round =>
    obtain ⟨j, hij, hjs, rfl, hv⟩ := hrel
    clear hR
    by_cases hlt : j < s.size
    · by_cases h92 : s[j] = 92
      · have hm : (s[j].toNat : Int) = 92 := by rw [h92]; rfl
        have hv' : Hid (R = dqVal s.data.toList (j + 2)) := by rw [← dqVal_back s j hlt h92]; exact hv
        clear hv h92
        go_wp2
        go_round
        case rel => exact ⟨j + 2, by omega, by omega, by go_num, hv'⟩
        case measure => simp [intOf]; omega
      · have hm : ((s[j].toNat : Int) == 92) = false := byte_nq h92 (n := 92) (by decide)
        by_cases h34 : s[j] = 34
        · have hm2 : (s[j].toNat : Int) = 34 := by rw [h34]; rfl
          have hv' : Hid (R = ((j + 1 : Nat) : Int)) := by rw [← dqVal_close s j hlt h34]; exact hv
          clear hv h92 h34 hm
          go_wp2
          go_ret
          exact ⟨by rw [unhide hv']; rfl, rfl⟩
        · have hm2 : ((s[j].toNat : Int) == 34) = false := byte_nq h34 (n := 34) (by decide)
          have hv' : Hid (R = dqVal s.data.toList (j + 1)) := by rw [← dqVal_else s j hlt h92 h34]; exact hv
          clear hv h92 h34
          go_wp2
          go_round
          case rel => exact ⟨j + 1, by omega, by omega, by go_num, hv'⟩
          case measure => simp [intOf]; omega
    · have hv' : Hid (R = -1) := by rw [← dqVal_end s.data.toList j (by simp; omega)]; exact hv
      clear hv
      go_wp2
      go_ret
      exact ⟨by rw [unhide hv']; rfl, rfl⟩

set_option maxHeartbeats 1000000 in
theorem unit_any (s : ByteArray) (i : Nat) (w : World) (hs : s.size ≤ 1048576) (hi : i < s.size) : Calls Tryf.prog 43 #[.string s, .int .i64 i] w (IntPost (Pl.unitEnd s.data.toList i) w) := by
  by_cases h34 : s[i] = 34
  · rw [unit_dq s i hi h34]; exact unit_dq_walk s i w hs hi h34
  have n34 : ((s[i].toNat : Int) == 34) = false := byte_nq h34 (n := 34) (by decide)
  by_cases h92 : s[i] = 92 ∧ i + 1 < s.size
  · obtain ⟨h92, hlt⟩ := h92
    rw [unit_back s i hlt h92]
    have hn : (s[i].toNat : Int) = 92 := by rw [h92]; rfl
    clear h92 h34 n34
    go_enter Tryf.func43, Tryf.ntmps43
    go_wp2
    go_ret
    exact ⟨rfl, rfl⟩
  by_cases h39 : s[i] = 39
  · rw [unit_sq s i hi h39]
    have hn : (s[i].toNat : Int) = 39 := by rw [h39]; rfl
    have hr : Hid (Lib.indexByte (s.extract (i + 1) s.size).data.toList 39 = Lib.indexByte (s.data.toList.drop (i + 1)) 39) := by simp only [Hid]; rw [tail_list]
    have hge := Lib.indexByte_ge (s.data.toList.drop (i + 1)) 39
    have hle : Lib.indexByte (s.data.toList.drop (i + 1)) 39 ≤ s.size := by
      rw [sq_index]
      cases hq : Pl.sq (s.data.toList.drop (i + 1)) with
      | none => simp
      | some n =>
        have := (Pl.sq_le _ n hq).2
        simp at this ⊢
        omega
    generalize Lib.indexByte (s.data.toList.drop (i + 1)) 39 = q at *
    clear h39 h34 n34 h92
    by_cases hq0 : q < 0
    · rw [if_pos hq0]
      go_enter Tryf.func43, Tryf.ntmps43
      go_wp2_with fail
      refine (Tryf.strings_IndexByte _ _ _).mono ?_
      rintro e w' ⟨rfl, rfl⟩
      rw [show ((39 : Int).toNat.toUInt8) = 39 from rfl, unhide hr]
      go_wp2
      go_ret
      exact ⟨rfl, rfl⟩
    · rw [if_neg hq0]
      go_enter Tryf.func43, Tryf.ntmps43
      go_wp2_with fail
      refine (Tryf.strings_IndexByte _ _ _).mono ?_
      rintro e w' ⟨rfl, rfl⟩
      rw [show ((39 : Int).toNat.toUInt8) = 39 from rfl, unhide hr]
      go_wp2
      go_ret
      exact ⟨rfl, rfl⟩
  have n39 : ((s[i].toNat : Int) == 39) = false := byte_nq h39 (n := 39) (by decide)
  cases hp : Lib.hasPrefix (s.data.toList.drop i) [36, 123] with
  | true =>
    rw [hasPrefix_brace, drop_byte s i hi] at hp
    simp only [List.head?_cons, List.tail_cons, decide_eq_true_eq, Option.some.injEq] at hp
    obtain ⟨hp1, hp2⟩ := hp
    have hlt2 : i + 1 < s.size := by
      rcases Nat.lt_or_ge (i + 1) s.size with h | h
      · exact h
      · rw [drop_end s (i + 1) h] at hp2; simp at hp2
    rw [drop_byte s (i + 1) hlt2] at hp2
    simp only [List.head?_cons, Option.some.injEq] at hp2
    have hq : Hid (Lib.hasPrefix (s.extract i s.size).data.toList [36, 123] = true) := by
      simp only [Hid]
      rw [tail_list, hasPrefix_brace, drop_byte s i hi, drop_byte s (i + 1) hlt2]
      simp [hp1, hp2]
    rw [unit_br s i hlt2 hp1 hp2]
    have HB := hide (braceEnd_any s i w hs hlt2 hp1 hp2)
    have n36 : (s[i].toNat : Int) = 36 := by rw [hp1]; rfl
    clear h39 h34 h92 hp1 hp2 n34 n39
    go_enter Tryf.func43, Tryf.ntmps43
    go_wp2_with fail
    refine (Tryf.strings_HasPrefix _ _ _).mono ?_
    rintro e w' ⟨rfl, rfl⟩
    rw [unhide hq]
    go_wp2_with fail
    refine (unhide HB).mono ?_
    rintro e w' ⟨rfl, rfl⟩
    go_wp2
    go_ret
    exact ⟨rfl, rfl⟩
  | false =>
    have hq : Hid (Lib.hasPrefix (s.extract i s.size).data.toList [36, 123] = false) := by
      simp only [Hid]
      rw [tail_list]; exact hp
    rw [unit_one s i hi (fun e => by by_cases h : i + 1 < s.size; exact absurd ⟨e, h⟩ h92; omega) h39 h34 hp]
    by_cases h92' : s[i] = 92
    · have hn : (s[i].toNat : Int) = 92 := by rw [h92']; rfl
      have hge : ¬ (i + 1 < s.size) := fun h => h92 ⟨h92', h⟩
      clear h39 h34 h92 n34 n39 h92' hp
      go_enter Tryf.func43, Tryf.ntmps43
      go_wp2_with fail
      refine (Tryf.strings_HasPrefix _ _ _).mono ?_
      rintro e w' ⟨rfl, rfl⟩
      rw [unhide hq]
      go_wp2
      go_ret
      exact ⟨rfl, rfl⟩
    · have hn : ((s[i].toNat : Int) == 92) = false := byte_nq h92' (n := 92) (by decide)
      clear h39 h34 h92 h92' hp
      go_enter Tryf.func43, Tryf.ntmps43
      go_wp2_with fail
      refine (Tryf.strings_HasPrefix _ _ _).mono ?_
      rintro e w' ⟨rfl, rfl⟩
      rw [unhide hq]
      go_wp2
      go_ret
      exact ⟨rfl, rfl⟩

end Go.Proofs.Qxb6609067aFmt
