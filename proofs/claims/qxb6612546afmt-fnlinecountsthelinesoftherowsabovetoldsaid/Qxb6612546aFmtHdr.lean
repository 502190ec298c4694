import Derived.Test.Qxb6612546aFmtHas
import Derived.Lib.Strings
namespace Go.Proofs.Qxb6612546aFmt
open Go.RowKit

/-- The byte order mark taken off. -/
def trimB (s : ByteArray) : ByteArray := ⟨(Lib.trimPrefix s.data.toList [239, 187, 191]).toArray⟩

/-- The header's names. -/
def hdrOf : List ByteArray → List ByteArray
  | [] => []
  | a :: r => trimB a :: r

theorem hdrOf_length (xs : List ByteArray) : (hdrOf xs).length = xs.length := by cases xs <;> rfl
theorem hdrOf_zero {xs : List ByteArray} {a : ByteArray} (h : xs[0]? = some a) : (hdrOf xs)[0]? = some (trimB a) := by
  cases xs with
  | nil => simp at h
  | cons b r => simp at h; subst h; rfl
theorem hdrOf_succ {xs : List ByteArray} {i : Nat} {a : ByteArray} (h : xs[i]? = some a) (hi : i ≠ 0) : (hdrOf xs)[i]? = some a := by
  cases xs with
  | nil => simp at h
  | cons b r =>
    cases i with
    | zero => exact absurd rfl hi
    | succ i => simpa [hdrOf] using h
theorem trimB_size (s : ByteArray) : (trimB s).size ≤ s.size := by
  unfold trimB Lib.trimPrefix
  show (List.toArray _).size ≤ s.data.size
  split <;> simp

/-- The rule for a header. -/
def Acc (hdr req opt : List ByteArray) : Prop := (∀ n ∈ hdr, n ∈ req ∨ n ∈ opt) ∧ hdr.Nodup ∧ ∀ n ∈ req, n ∈ hdr

theorem bom_law (s : ByteArray) (h0 : 0 < s.size) (h1 : 1 < s.size) (h2 : 2 < s.size) : Lib.hasPrefix s.data.toList [239, 187, 191] = (decide (s[0] = 239) && (decide (s[1] = 187) && decide (s[2] = 191))) := by
  have e0 : s.data.toList = s[0] :: s[1] :: s[2] :: s.data.toList.drop 3 := by
    have l0 : 0 < s.data.toList.length := by simpa using h0
    have l1 : 1 < s.data.toList.length := by simpa using h1
    have l2 : 2 < s.data.toList.length := by simpa using h2
    conv => lhs; rw [← List.drop_zero (l := s.data.toList), List.drop_eq_getElem_cons l0, List.drop_eq_getElem_cons l1, List.drop_eq_getElem_cons l2]
    rfl
  rw [e0, Lib.hasPrefix]
  simp only [List.isPrefixOf, Bool.and_true]
  rw [Bool.eq_iff_iff]
  simp only [Bool.and_eq_true, beq_iff_eq, decide_eq_true_eq]
  exact ⟨fun ⟨a, b, c⟩ => ⟨a.symm, b.symm, c.symm⟩, fun ⟨a, b, c⟩ => ⟨a.symm, b.symm, c.symm⟩⟩

theorem bom_short (s : ByteArray) (h : s.size < 3) : Lib.hasPrefix s.data.toList [239, 187, 191] = false := by
  rw [← Lib.hasPrefix_of_take]
  simp
  intro h'
  omega

set_option maxRecDepth 100000 in
set_option maxHeartbeats 1000000 in
/-- zzHasBOM. -/
theorem hasBOM_any (s : ByteArray) (w : World) : Calls Tryf.prog 38 #[.string s] w fun e w' => e = .returned (.bool (Lib.hasPrefix s.data.toList [239, 187, 191])) ∧ w' = w := by
  by_cases h3 : s.size < 3
  · have hr := hide (bom_short s h3)
    go_enter Tryf.func38, Tryf.ntmps38
    go_wp2
    go_ret
    exact ⟨by rw [unhide hr]; rfl, rfl⟩
  · have h0 : 0 < s.size := by omega
    have h1 : 1 < s.size := by omega
    have h2 : 2 < s.size := by omega
    have hr := hide (bom_law s h0 h1 h2)
    by_cases e0 : s[0] = 239
    · by_cases e1 : s[1] = 187
      · by_cases e2 : s[2] = 191
        · go_enter Tryf.func38, Tryf.ntmps38
          go_wp2
          go_ret
          exact ⟨by rw [unhide hr]; simp [e0, e1, e2], rfl⟩
        · have e2' : ¬ ((s[2].toNat : Int) = 191) := fun e => e2 (byte_eq _ 191 e)
          go_enter Tryf.func38, Tryf.ntmps38
          go_wp2
          go_ret
          exact ⟨by rw [unhide hr]; simp [e2, e2'], rfl⟩
      · have e1' : ¬ ((s[1].toNat : Int) = 187) := fun e => e1 (byte_eq _ 187 e)
        go_enter Tryf.func38, Tryf.ntmps38
        go_wp2
        go_ret
        exact ⟨by rw [unhide hr]; simp [e1], rfl⟩
    · have e0' : ¬ ((s[0].toNat : Int) = 239) := fun e => e0 (byte_eq _ 239 e)
      go_enter Tryf.func38, Tryf.ntmps38
      go_wp2
      go_ret
      exact ⟨by rw [unhide hr]; simp [e0], rfl⟩

/-- What zzHeaderNames leaves. -/
def NamesPost (xs : List ByteArray) (w : World) (e : Ending) (w' : World) : Prop := ∃ v, e = .returned v ∧ StrS w' v xs ∧ Below w.heap.size w w'

set_option maxRecDepth 100000 in
set_option maxHeartbeats 1000000 in
theorem headerNames_any (a : Option Addr) (n c : Nat) (xs : List ByteArray) (w : World) (hs : StrS w (.slice a n c) xs) (hn : n ≤ 2097152) (hz : ∀ t ∈ xs, t.size ≤ 2097152) : Calls Tryf.prog 14 #[.slice a n c] w (NamesPost (hdrOf xs) w) := by
  obtain ⟨i0, hi, hz0, hz1, hz2⟩ := info_parts Tryf.info9
  have hl := hs.some_cases.1
  have hs' := hide hs
  have hl' := hide hl
  have hb2 : i0.bytes * n ≤ 281474976710656 := by rw [hz2]; omega
  have hmx : n ≤ maxLen := by unfold maxLen; omega
  have HB := hide hasBOM_any
  have hzz := hide hz
  clear hs hl hz
  go_enter Tryf.func14, Tryf.ntmps14
  go_wp2_with (at_make; refine wpList_make_full _ rfl _ _ 22 rfl w.heap.size 9 i0 (.string ⟨#[]⟩) 1 Tryf.underlying22 hi hz0 hz1 _ _ _ _ n rfl rfl rfl rfl hb2 hmx (Nat.le_refl _) ?_)
  intro w1 hown hgrow
  have hb1 : Below w.heap.size w w1 := (Below.refl _ w).grown hgrow (Nat.le_refl _) (by simp)
  obtain ⟨w2, hrun, hown2, hb2'⟩ := copy_strs w1 3 w.heap.size w.heap.size n _ hown a c xs ((unhide hs').below hb1) w.heap.size w hb1 (Nat.le_refl _)
  have hown2' := hide hown2
  have hbb := hide hb2'
  clear hown hgrow hb1 hown2 hb2' hb2 hmx hs'
  cases xs with
  | nil =>
    have hn0 : n = 0 := by have := unhide hl'; simpa using this.symm
    subst hn0
    go_wp2
    go_ret
    exact ⟨_, rfl, strs_own (unhide hown2'), unhide hbb⟩
  | cons x r =>
    have hn0 : 0 < n := by have := unhide hl'; simp at this; omega
    have hcx : w2.cell? ⟨w.heap.size, 0, none⟩ = some (.string x) := by rw [(unhide hown2').cellAt 0 (by omega)]; rfl
    have hcf : w2.frozen? ⟨w.heap.size, 0, none⟩ = false := (unhide hown2').frozenAt 0
    cases hbm : Lib.hasPrefix x.data.toList [239, 187, 191] with
    | false =>
      have HX : Hid (Calls Tryf.prog 38 #[.string x] w2 fun e w' => e = .returned (.bool false) ∧ w' = w2) := by rw [Hid, ← hbm]; exact unhide HB x w2
      have hd : Hid (hdrOf (x :: r) = x :: r) := by simp [Hid, hdrOf, trimB, Lib.trimPrefix, hbm]
      clear hbm HB
      go_wp2_with fail
      refine (unhide HX).mono ?_
      rintro en w3 ⟨rfl, hw⟩
      replace hw := hw.symm
      subst hw
      clear HX
      go_wp2
      go_ret
      exact ⟨_, rfl, by rw [unhide hd]; exact strs_own (unhide hown2'), unhide hbb⟩
    | true =>
      have HX : Hid (Calls Tryf.prog 38 #[.string x] w2 fun e w' => e = .returned (.bool true) ∧ w' = w2) := by rw [Hid, ← hbm]; exact unhide HB x w2
      have hx3 : 3 ≤ x.size := by
        rcases Nat.lt_or_ge x.size 3 with h | h
        · rw [bom_short x h] at hbm; cases hbm
        · exact h
      have hd : Hid (hdrOf (x :: r) = x.extract 3 x.size :: r) := by
        rw [Hid]
        simp only [hdrOf, trimB, Lib.trimPrefix, hbm, if_true]
        congr 1
        refine ByteArray.ext (Array.ext' ?_)
        simp
        rw [List.take_of_length_le (by simp)]
      have hst := ((unhide hown2').stored 0 (.string (x.extract 3 x.size))).1
      have hst' : Hid ((w2.setCell ⟨w.heap.size, 0, none⟩ (.string (x.extract 3 x.size))).ownsRow w.heap.size 9 1 (.slice (some ⟨w.heap.size, 0, none⟩) n n) n ((x.extract 3 x.size :: r).map Value.string)) := by
        rw [Hid]
        simpa using hst
      have hbs := hide ((unhide hbb).setCell (p := ⟨w.heap.size, 0, none⟩) (Nat.le_refl _) (.string (x.extract 3 x.size)))
      clear hbm HB hst
      go_wp2_with fail
      refine (unhide HX).mono ?_
      rintro en w3 ⟨rfl, hw⟩
      replace hw := hw.symm
      subst hw
      clear HX
      go_wp2
      go_ret
      exact ⟨_, rfl, by rw [unhide hd]; exact strs_own (unhide hst'), unhide hbs⟩
end Go.Proofs.Qxb6612546aFmt
