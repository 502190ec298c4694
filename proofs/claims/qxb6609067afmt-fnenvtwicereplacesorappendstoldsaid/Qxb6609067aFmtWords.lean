import Derived.Test.Qxb6609067aFmtSplit
import Derived.Test.Qxb6609067aFmtErr
import Derived.Test.Qxb6609067aFmtAppend
import Derived.Test.Qxb6609067aFmtClone
namespace Go.Proofs.Qxb6609067aFmt
open Go.RowKit Go.Extern.Stop Go.Stop Go.Extern

/-- A word's text. -/
def seg (s : ByteArray) (t : Int × Int × Int) : ByteArray := s.extract t.1.toNat t.2.1.toNat

abbrev WW := List (Int × Int × Int) × Bool

/-- All the words: those that were found, then the rest. -/
def joinW (outs : List (Int × Int × Int)) (x : WW) : WW := (outs ++ x.1, x.2)

theorem joinW_push (outs : List (Int × Int × Int)) (t : Int × Int × Int) (x : WW) : joinW outs (t :: x.1, x.2) = joinW (outs ++ [t]) x := by simp [joinW]

theorem WStep_flush (s : ByteArray) (k a : Nat) (eq : Int) (outs : List (Int × Int × Int)) (h : k < s.size) (hc : s[k] = 32 ∨ s[k] = 9) :
    joinW outs (Pl.W 0 k (a : Int) eq (s.data.toList.drop k)) = joinW (outs ++ [((a : Int), (k : Int), eq)]) (Pl.W 0 (k + 1) (-1) (-1) (s.data.toList.drop (k + 1))) := by
  rw [drop_byte s k h, Pl.W_blank _ _ _ _ _ hc, if_pos (by omega), joinW_push]

theorem WStep_blank (s : ByteArray) (k : Nat) (start eq : Int) (h : k < s.size) (hc : s[k] = 32 ∨ s[k] = 9) (hs : start < 0) :
    Pl.W 0 k start eq (s.data.toList.drop k) = Pl.W 0 (k + 1) start eq (s.data.toList.drop (k + 1)) := by
  rw [drop_byte s k h, Pl.W_blank _ _ _ _ _ hc, if_neg (by omega)]

theorem WStep_none (s : ByteArray) (k : Nat) (start eq : Int) (h : k < s.size) (hc : ¬ (s[k] = 32 ∨ s[k] = 9)) (hu : Pl.unitLen (s.data.toList.drop k) = none) :
    Pl.W 0 k start eq (s.data.toList.drop k) = ([(if start < 0 then (k : Int) else start, (s.size : Int), if s[k] = 61 ∧ eq < 0 then (k : Int) else eq)], false) := by
  have hl : k + 1 + (s.data.toList.drop (k + 1)).length = s.size := by simp; omega
  rw [drop_byte s k h] at hu ⊢
  rw [Pl.W_none _ _ _ _ _ hc hu, hl]

theorem WStep_some (s : ByteArray) (k n : Nat) (start eq : Int) (h : k < s.size) (hc : ¬ (s[k] = 32 ∨ s[k] = 9)) (hu : Pl.unitLen (s.data.toList.drop k) = some n) :
    Pl.W 0 k start eq (s.data.toList.drop k) = Pl.W 0 (k + n) (if start < 0 then (k : Int) else start) (if s[k] = 61 ∧ eq < 0 then (k : Int) else eq) (s.data.toList.drop (k + n)) ∧ 1 ≤ n ∧ k + n ≤ s.size := by
  have hle := Pl.unitLen_le _ (by rw [drop_byte s k h]; simp) n hu
  have hl : (s.data.toList.drop k).length = s.size - k := by simp
  refine ⟨?_, hle.1, by omega⟩
  rw [drop_byte s k h] at hu ⊢
  rw [Pl.W_some _ _ _ _ _ n hc hu, Pl.W_skip _ _ _ _ _ (by simp at hle ⊢; omega), List.drop_drop]
  congr 1
  · omega
  · congr 1; omega

theorem WStep_end (s : ByteArray) (k : Nat) (start eq : Int) (h : s.size = k) : Pl.W 0 k start eq (s.data.toList.drop k) = (if 0 ≤ start then [(start, (k : Int), eq)] else [], true) := by
  rw [drop_end s k (by omega), Pl.W]

def allW (s : ByteArray) : WW := Pl.W 0 0 (-1) (-1) s.data.toList

def WordsPost (s : ByteArray) (w : World) (e : Ending) (w' : World) : Prop :=
  Below w.heap.size w w' ∧ (((allW s).2 = true ∧ ∃ v, e = .returned (.tuple #[v, .nilIface]) ∧ StrS w' v ((allW s).1.map (seg s)) ∧ ∀ g, v.ownBlock = some g → w.heap.size ≤ g) ∨
    ((allW s).2 = false ∧ ∃ p, e = .returned (.tuple #[.slice none 0 0, .iface 85 (.pointer (some p))])))

/-- What the loop knows of the words found so far. -/
def WordsRel (s : ByteArray) (w : World) (v : Value) (outs : List (Int × Int × Int)) (wr : World) : Prop :=
  wr.ownsRow w.heap.size 9 1 v outs.length (outs.map fun t => Value.string (seg s t)) ∧ Below w.heap.size w wr

theorem WordsRel.step {s : ByteArray} {w wr w1 : World} {v v' : Value} {outs : List (Int × Int × Int)} (t : Int × Int × Int) (o : Obj) (h : WordsRel s w v outs wr)
    (h1 : w1.ownsRow w.heap.size 9 1 v' (outs.length + 1) (outs.map (fun t => Value.string (seg s t)) ++ [.string (seg s t)])) (h2 : (wr.alloc o).grownBy w1 v.ownBlock) : WordsRel s w v' (outs ++ [t]) w1 := by
  obtain ⟨ho, hb⟩ := h
  refine ⟨by simpa using h1, ?_⟩
  refine ((hb.alloc hb.size o)).grown h2 (by have := hb.size; simp; omega) (fun k hk => (ho.lt k hk).1)

theorem StrS.of_own {w : World} {base n : Nat} {v : Value} {xs : List ByteArray} (h : w.ownsRow base 9 1 v n (xs.map Value.string)) : StrS w v xs := by
  rcases h.2 with ⟨rfl, hn⟩ | ⟨g, cap, cur, rfl, _⟩
  · have hl : xs.length = 0 := by have := h.1; simpa [hn] using this
    have : xs = [] := List.eq_nil_of_length_eq_zero hl
    subst this
    exact StrS.nil w
  · exact StrS.own h

theorem WordsRel.strs {s : ByteArray} {w wr : World} {v : Value} {outs : List (Int × Int × Int)} (h : WordsRel s w v outs wr) : StrS wr v (outs.map (seg s)) := by
  apply StrS.of_own (base := w.heap.size) (n := outs.length)
  rw [List.map_map]
  exact h.1

set_option maxRecDepth 100000 in
set_option maxHeartbeats 2000000 in
theorem words_any (F : Interp) (s : ByteArray) (w : World) (hs : s.size ≤ 1048576) (hF : F.answers w.tape) : Calls Tryf.prog 49 #[.string s] w (WordsPost s w) := by
  obtain ⟨i0, hi, hz0, hz1, hz2⟩ := info_parts Tryf.info9
  go_enter Tryf.func49, Tryf.ntmps49
  go_wp2
  go_loopw [4, 5, 6] (fun v sv iv wr => ∃ (k : Nat) (start eq : Int) (outs : List (Int × Int × Int)), k ≤ s.size ∧ iv = .int .i64 k ∧ sv = .int .i64 start ∧ -1 ≤ start ∧ start < s.size ∧ start ≤ k ∧ outs.length ≤ k ∧ WordsRel s w v outs wr ∧ Hid (allW s = joinW outs (Pl.W 0 k start eq (s.data.toList.drop k)))) (fun _ _ iv _ => s.size + 1 - (intOf iv).toNat)
  case atStart => exact ⟨0, -1, -1, [], Nat.zero_le _, rfl, rfl, by omega, by omega, by omega, Nat.le_refl _, ⟨World.ownsRow_nil _ _ _ _, Below.refl _ _⟩, by simp [Hid, joinW, allW]⟩
  case round =>
    obtain ⟨k, start, eq, outs, hk, rfl, rfl, hs1, hs2, hs3, hol, hrel0, hv⟩ := hrel
    by_cases hlt : k < s.size
    · by_cases hbl : s[k] = 32 ∨ s[k] = 9
      · by_cases hst : start < 0
        · have hv' : Hid (allW s = joinW outs (Pl.W 0 (k + 1) start eq (s.data.toList.drop (k + 1)))) := by rw [← WStep_blank s k start eq hlt hbl hst]; exact hv
          have hrel' := hide hrel0
          clear hv hrel0
          rcases hbl with h | h
          · have hn : (s[k].toNat : Int) = 32 := by rw [h]; rfl
            clear h
            go_wp2
            go_roundw
            case rel => exact ⟨k + 1, start, eq, outs, by omega, by go_num, rfl, by omega, by omega, by omega, by omega, unhide hrel', hv'⟩
            case measure => simp [intOf]; omega
          · have hn : (s[k].toNat : Int) = 9 := by rw [h]; rfl
            clear h
            go_wp2
            go_roundw
            case rel => exact ⟨k + 1, start, eq, outs, by omega, by go_num, rfl, by omega, by omega, by omega, by omega, unhide hrel', hv'⟩
            case measure => simp [intOf]; omega
        · obtain ⟨a, rfl⟩ : ∃ a : Nat, start = (a : Int) := ⟨start.toNat, by omega⟩
          have hv' : Hid (allW s = joinW (outs ++ [((a : Int), (k : Int), eq)]) (Pl.W 0 (k + 1) (-1) (-1) (s.data.toList.drop (k + 1)))) := by rw [← WStep_flush s k a eq outs hlt hbl]; exact hv
          have hmx : outs.length + 1 ≤ maxLen := by unfold maxLen; omega
          clear hv
          rcases hbl with h | h
          · have hn : (s[k].toNat : Int) = 32 := by rw [h]; rfl
            clear h
            go_wp2_with (at_builtin; refine wpList_append_where _ rfl _ _ 22 rfl w.heap.size 9 i0 (.string ⟨#[]⟩) 1 16 Tryf.underlying22 hi hz0 hz1 hz2 rfl (by decide) _ outs.length _ rfl (hrel0.1.alloc _) ⟨wr.heap.size, 0, none⟩ 1 1 [.string (s.extract a k)] rfl rfl (cell_one_new _ _ _) (by simp [Value.oneCell']) hmx (by omega) (by have := hrel0.2.size; simp; omega) ?_)
            intro v' w1 hown' hgrow' _ _
            have hrel' := hide (WordsRel.step ((a : Int), (k : Int), eq) _ hrel0 hown' hgrow')
            clear hown' hgrow' hrel0
            go_wp2
            go_roundw
            case rel => exact ⟨k + 1, -1, -1, _, by omega, by go_num, rfl, by omega, by omega, by omega, by simp; omega, unhide hrel', hv'⟩
            case measure => simp [intOf]; omega
          · have hn : (s[k].toNat : Int) = 9 := by rw [h]; rfl
            clear h
            go_wp2_with (at_builtin; refine wpList_append_where _ rfl _ _ 22 rfl w.heap.size 9 i0 (.string ⟨#[]⟩) 1 16 Tryf.underlying22 hi hz0 hz1 hz2 rfl (by decide) _ outs.length _ rfl (hrel0.1.alloc _) ⟨wr.heap.size, 0, none⟩ 1 1 [.string (s.extract a k)] rfl rfl (cell_one_new _ _ _) (by simp [Value.oneCell']) hmx (by omega) (by have := hrel0.2.size; simp; omega) ?_)
            intro v' w1 hown' hgrow' _ _
            have hrel' := hide (WordsRel.step ((a : Int), (k : Int), eq) _ hrel0 hown' hgrow')
            clear hown' hgrow' hrel0
            go_wp2
            go_roundw
            case rel => exact ⟨k + 1, -1, -1, _, by omega, by go_num, rfl, by omega, by omega, by omega, by simp; omega, unhide hrel', hv'⟩
            case measure => simp [intOf]; omega
      · have hn1 : ((s[k].toNat : Int) == 32) = false := byte_nq (fun h => hbl (.inl h)) (n := 32) (by decide)
        have hn2 : ((s[k].toNat : Int) == 9) = false := byte_nq (fun h => hbl (.inr h)) (n := 9) (by decide)
        have HU := hide (unit_any s k wr hs hlt)
        have hFr : Hid (F.answers wr.tape) := by simp only [Hid]; rw [hrel0.2.tape]; exact hF
        have hrel' := hide hrel0
        cases hu : Pl.unitLen (s.data.toList.drop k) with
        | none =>
          have he : Hid (Pl.unitEnd s.data.toList k = -1) := by simp only [Hid, Pl.unitEnd, hu]
          have hv' : Hid ((allW s).2 = false) := by
            have := unhide hv
            rw [WStep_none s k start eq hlt hbl hu] at this
            rw [this]; rfl
          clear hv hu hbl hrel0 hF
          by_cases hst : start < 0
          · go_wp2_with fail
            refine (unhide HU).mono ?_
            rintro e w' ⟨rfl, rfl⟩
            rw [unhide he]
            go_wp2_with fail
            all_goals
              refine (errorf0 F _ _ (by exact unhide hFr) (two_new0 _ _ _ _) (two_new1 _ _ _ _)).mono ?_
              rintro e w2 ⟨p, rfl, hb⟩
              go_wp2
              go_ret2
              exact ⟨((unhide hrel').2.alloc (unhide hrel').2.size _).trans (hb.mono (by have := (unhide hrel').2.size; simp; omega)), .inr ⟨unhide hv', p, rfl⟩⟩
          · go_wp2_with fail
            refine (unhide HU).mono ?_
            rintro e w' ⟨rfl, rfl⟩
            rw [unhide he]
            go_wp2_with fail
            all_goals
              refine (errorf0 F _ _ (by exact unhide hFr) (two_new0 _ _ _ _) (two_new1 _ _ _ _)).mono ?_
              rintro e w2 ⟨p, rfl, hb⟩
              go_wp2
              go_ret2
              exact ⟨((unhide hrel').2.alloc (unhide hrel').2.size _).trans (hb.mono (by have := (unhide hrel').2.size; simp; omega)), .inr ⟨unhide hv', p, rfl⟩⟩
        | some n =>
          obtain ⟨h1, hb1, hb2⟩ := WStep_some s k n start eq hlt hbl hu
          have he : Hid (Pl.unitEnd s.data.toList k = ((k + n : Nat) : Int)) := by simp only [Hid, Pl.unitEnd, hu]
          have hv' : Hid (allW s = joinW outs (Pl.W 0 (k + n) (if start < 0 then (k : Int) else start) (if s[k] = 61 ∧ eq < 0 then (k : Int) else eq) (s.data.toList.drop (k + n)))) := by rw [← h1]; exact hv
          generalize (if s[k] = 61 ∧ eq < 0 then (k : Int) else eq) = eq' at hv'
          clear hv hu hbl hrel0 hF h1
          by_cases hst : start < 0
          · rw [if_pos hst] at hv'
            go_wp2_with fail
            refine (unhide HU).mono ?_
            rintro e w' ⟨rfl, rfl⟩
            rw [unhide he]
            go_wp2
            go_roundw
            case rel => exact ⟨k + n, k, eq', outs, by omega, by go_num, rfl, by omega, by omega, by omega, by omega, unhide hrel', hv'⟩
            case measure => simp [intOf]; omega
          · rw [if_neg hst] at hv'
            go_wp2_with fail
            refine (unhide HU).mono ?_
            rintro e w' ⟨rfl, rfl⟩
            rw [unhide he]
            go_wp2
            go_roundw
            case rel => exact ⟨k + n, start, eq', outs, by omega, by go_num, rfl, by omega, by omega, by omega, by omega, unhide hrel', hv'⟩
            case measure => simp [intOf]; omega
    · have hks : s.size = k := by omega
      by_cases hst : start < 0
      · have hv' : Hid (allW s = (outs, true)) := by
          have := unhide hv
          rw [WStep_end s k start eq hks, if_neg (by omega)] at this
          rw [this]; simp [joinW, Hid]
        have hrel' := hide hrel0
        clear hv hrel0 hks
        go_wp2
        go_ret2
        refine ⟨(unhide hrel').2, .inl ⟨by rw [unhide hv'], _, rfl, ?_, fun g hg => ((unhide hrel').1.lt g hg).1⟩⟩
        rw [unhide hv']
        exact (unhide hrel').strs
      · obtain ⟨a, rfl⟩ : ∃ a : Nat, start = (a : Int) := ⟨start.toNat, by omega⟩
        have hv' : Hid (allW s = (outs ++ [((a : Int), (k : Int), eq)], true)) := by
          have := unhide hv
          rw [WStep_end s k _ eq hks, if_pos (by omega)] at this
          rw [this]; rfl
        have hmx : outs.length + 1 ≤ maxLen := by unfold maxLen; omega
        clear hv
        subst hks
        go_wp2_with (at_builtin; refine wpList_append_where _ rfl _ _ 22 rfl w.heap.size 9 i0 (.string ⟨#[]⟩) 1 16 Tryf.underlying22 hi hz0 hz1 hz2 rfl (by decide) _ outs.length _ rfl (hrel0.1.alloc _) ⟨wr.heap.size, 0, none⟩ 1 1 [.string (s.extract a s.size)] rfl rfl (cell_one_new _ _ _) (by simp [Value.oneCell']) hmx (by omega) (by have := hrel0.2.size; simp; omega) ?_)
        intro v' w1 hown' hgrow' _ _
        have hrel' := hide (WordsRel.step ((a : Int), (s.size : Int), eq) _ hrel0 hown' hgrow')
        clear hown' hgrow' hrel0
        go_wp2
        go_ret2
        refine ⟨(unhide hrel').2, .inl ⟨by rw [unhide hv'], _, rfl, ?_, fun g hg => ((unhide hrel').1.lt g hg).1⟩⟩
        rw [unhide hv']
        exact (unhide hrel').strs
end Go.Proofs.Qxb6609067aFmt
