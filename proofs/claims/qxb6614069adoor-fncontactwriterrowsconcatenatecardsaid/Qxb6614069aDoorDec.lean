import Derived.Test.Qxb6614069aDoorBase
import Derived.Test.Qxb6614069aDoorDecP
import Derived.Lib.BufferKept
namespace Go.Proofs.Qxb6614069aDoor
open Go.RowKit Go.Lib

/-- A decimal in the block D: its digits, how many, and the point. -/
structure Dec (w : World) (D : Nat) (f : Nat → UInt8) (nd : Nat) (dp : Int) : Prop where
  dig : ∀ j, j < 800 → w.cell? ⟨D, j, none⟩ = some (byteV (f j))
  nd : w.cell? ⟨D, 800, none⟩ = some (.int .i64 nd)
  dp : w.cell? ⟨D, 801, none⟩ = some (.int .i64 dp)
  frz : ∀ j, w.frozen? ⟨D, j, none⟩ = false

def upd (f : Nat → UInt8) (i : Nat) (c : UInt8) : Nat → UInt8 := fun j => if j = i then c else f j

theorem addr_ne {D i j : Nat} (h : i ≠ j) : (⟨D, i, none⟩ : Addr) ≠ ⟨D, j, none⟩ := fun e => h (by injection e)

theorem Dec.setDig {w : World} {D : Nat} {f : Nat → UInt8} {nd : Nat} {dp : Int} (h : Dec w D f nd dp) {i : Nat} (hi : i < 800) (c : UInt8) : Dec (w.setCell ⟨D, i, none⟩ (byteV c)) D (upd f i c) nd dp where
  dig := fun j hj => by
    unfold upd
    by_cases e : j = i
    · subst e; rw [if_pos rfl]; exact World.cell?_setCell_same w _ _ (h.dig j hj)
    · rw [if_neg e, World.cell?_setCell_other w _ _ _ (addr_ne (Ne.symm e))]; exact h.dig j hj
  nd := by rw [World.cell?_setCell_other w _ _ _ (addr_ne (by omega))]; exact h.nd
  dp := by rw [World.cell?_setCell_other w _ _ _ (addr_ne (by omega))]; exact h.dp
  frz := fun j => by rw [World.frozen?_setCell]; exact h.frz j

theorem Dec.setNd {w : World} {D : Nat} {f : Nat → UInt8} {nd : Nat} {dp : Int} (h : Dec w D f nd dp) (n : Nat) : Dec (w.setCell ⟨D, 800, none⟩ (.int .i64 n)) D f n dp where
  dig := fun j hj => by rw [World.cell?_setCell_other w _ _ _ (addr_ne (by omega))]; exact h.dig j hj
  nd := World.cell?_setCell_same w _ _ h.nd
  dp := by rw [World.cell?_setCell_other w _ _ _ (addr_ne (by omega))]; exact h.dp
  frz := fun j => by rw [World.frozen?_setCell]; exact h.frz j

theorem Dec.setDp {w : World} {D : Nat} {f : Nat → UInt8} {nd : Nat} {dp : Int} (h : Dec w D f nd dp) (n : Int) : Dec (w.setCell ⟨D, 801, none⟩ (.int .i64 n)) D f nd n where
  dig := fun j hj => by rw [World.cell?_setCell_other w _ _ _ (addr_ne (by omega))]; exact h.dig j hj
  nd := by rw [World.cell?_setCell_other w _ _ _ (addr_ne (by omega))]; exact h.nd
  dp := World.cell?_setCell_same w _ _ h.dp
  frz := fun j => by rw [World.frozen?_setCell]; exact h.frz j

theorem Dec.lt {w : World} {D : Nat} {f : Nat → UInt8} {nd : Nat} {dp : Int} (h : Dec w D f nd dp) : D < w.heap.size := World.block_lt_of_cell? w _ h.nd

theorem Dec.keep {w w' : World} {D : Nat} {f : Nat → UInt8} {nd : Nat} {dp : Int} (h : Dec w D f nd dp) {r : Option Nat} (hg : w.grownBy w' r) (hr : some D ≠ r) : Dec w' D f nd dp := by
  have hb := hg.block D h.lt hr
  exact ⟨fun j hj => (World.cell?_of_block (a := ⟨D, j, none⟩) hb).trans (h.dig j hj), (World.cell?_of_block (a := ⟨D, 800, none⟩) hb).trans h.nd, (World.cell?_of_block (a := ⟨D, 801, none⟩) hb).trans h.dp, fun j => (World.frozen?_of_block (a := ⟨D, j, none⟩) hb).trans (h.frz j)⟩

theorem Dec.ext {w : World} {D : Nat} {f g : Nat → UInt8} {nd : Nat} {dp : Int} (h : Dec w D f nd dp) (e : ∀ j, j < 800 → f j = g j) : Dec w D g nd dp :=
  ⟨fun j hj => by rw [← e j hj]; exact h.dig j hj, h.nd, h.dp, h.frz⟩

theorem grown_set {w wr : World} {D i : Nat} {v : Value} (h : w.grownBy wr (some D)) : w.grownBy (wr.setCell ⟨D, i, none⟩ v) (some D) := grownBy_then h (Lib.grownBy_setCell wr D i v) (.inl rfl)

/-- How many digits are left when the zeros at the end go. -/
def trimN (f : Nat → UInt8) : Nat → Nat
  | 0 => 0
  | n + 1 => if f n = 48 then trimN f n else n + 1

/-- What trim leaves. -/
def TrimP (w : World) (D : Nat) (f : Nat → UInt8) (nd : Nat) (dp : Int) (e : Ending) (w' : World) : Prop :=
  e = .returned (.tuple #[]) ∧ Dec w' D f (trimN f nd) (if trimN f nd = 0 then 0 else dp) ∧ w.grownBy w' (some D)

theorem byte_eqI (a b : UInt8) (h : ((a.toNat : Int) = (b.toNat : Int))) : a = b := UInt8.toNat_inj.1 (by omega)

set_option maxRecDepth 100000 in
set_option maxHeartbeats 2000000 in
theorem trim_any (w : World) (D : Nat) (f : Nat → UInt8) (nd : Nat) (dp : Int) (h : Dec w D f nd dp) (hn : nd ≤ 800) : Calls Tryd.prog 67 #[.pointer (some ⟨D, 0, none⟩)] w (TrimP w D f nd dp) := by
  have hD := hide h
  clear h
  go_enter Tryd.func67, Tryd.ntmps67
  go_wp2
  go_loopw [] (fun wr => ∃ m : Nat, m ≤ nd ∧ trimN f nd = trimN f m ∧ Dec wr D f m dp ∧ w.grownBy wr (some D)) (fun wr => (RowKit.intOf ((wr.cell? ⟨D, 800, none⟩).getD undef)).toNat)
  case atStart => exact ⟨nd, Nat.le_refl _, rfl, unhide hD, grownBy_refl _ _⟩
  case round =>
    obtain ⟨m, hm, ht, hR, hg⟩ := hrel
    have c800 := hR.nd
    have c801 := hR.dp
    have f800 := hR.frz 800
    have f801 := hR.frz 801
    have hR' := hide hR
    have hg' := hide hg
    have ht' := hide ht
    clear hR hg ht
    cases m with
    | zero =>
      have hfin : Hid (TrimP w D f nd dp (.returned (.tuple #[])) (wr.drew.setCell ⟨D, 801, none⟩ (.int .i64 0))) := by
        refine ⟨rfl, ?_, grown_set (grownBy_then (unhide hg') (grownBy_drew wr 1 none) (.inr (by simp)))⟩
        have e : trimN f nd = 0 := (unhide ht').trans rfl
        rw [e, if_pos rfl]
        exact ((unhide hR').keep (grownBy_drew wr 1 none) (by simp)).setDp 0
      go_wp2
      go_region
      all_goals go_wp2
      all_goals go_end0
      all_goals exact unhide hfin
    | succ m =>
      have cm := (unhide hR').dig m (by omega)
      unfold byteV at cm
      by_cases h48 : f m = 48
      · rw [h48] at cm
        have hnx : Hid (trimN f nd = trimN f m) := by
          rw [Hid, unhide ht', trimN, if_pos h48]
        have hR2 := hide (((unhide hR').keep (grownBy_drew wr 1 none) (by simp)).setNd m)
        have hg2 := hide (grown_set (i := 800) (v := .int .i64 m) (grownBy_then (unhide hg') (grownBy_drew wr 1 none) (.inr (by simp))))
        go_wp2
        go_region
        all_goals go_wp2
        all_goals go_roundw
        case rel => exact ⟨m, by omega, unhide hnx, unhide hR2, unhide hg2⟩
        case measure =>
          have h2 := (unhide hR2).nd
          show (RowKit.intOf ((((wr.drewN 1).setCell ⟨D, 800, none⟩ (.int .i64 m)).cell? ⟨D, 800, none⟩).getD undef)).toNat < _
          rw [h2, c800]
          simp [RowKit.intOf]
      · have h48' : ¬ (((f m).toNat : Int) = 48) := fun e => h48 (byte_eqI _ 48 e)
        have hfin : Hid (TrimP w D f nd dp (.returned (.tuple #[])) wr.drew) := by
          refine ⟨rfl, ?_, grownBy_then (unhide hg') (grownBy_drew wr 1 none) (.inr (by simp))⟩
          have e : trimN f nd = m + 1 := by rw [unhide ht', trimN, if_neg h48]
          rw [e, if_neg (by omega)]
          exact (unhide hR').keep (grownBy_drew wr 1 none) (by simp)
        go_wp2
        go_region
        all_goals go_wp2
        all_goals go_end0
        all_goals exact unhide hfin

theorem drop_byte (s : ByteArray) (i : Nat) (h : i < s.size) : s.data.toList.drop i = s[i] :: s.data.toList.drop (i + 1) := by
  rw [List.drop_eq_getElem_cons (by simpa using h)]
  rfl

theorem drop_end (s : ByteArray) (i : Nat) (h : s.size ≤ i) : s.data.toList.drop i = [] := List.drop_of_length_le (by simpa using h)

set_option maxRecDepth 100000 in
set_option maxHeartbeats 2000000 in
theorem prefixLess_any (w : World) (D : Nat) (ds : List UInt8) (c : Nat) (s : ByteArray) (hs : s.size ≤ 1000) (hd : ∀ j x, ds[j]? = some x → w.cell? ⟨D, j, none⟩ = some (byteV x)) :
    Calls Tryd.prog 76 #[.slice (some ⟨D, 0, none⟩) ds.length c, .string s] w fun e w' => e = .returned (.bool (pl ds s.data.toList)) ∧ ∃ m, w' = w.drewN m := by
  have hd' := hide hd
  clear hd
  go_enter Tryd.func76, Tryd.ntmps76
  go_wp2
  go_loopw [5] (fun iv wr => ∃ i n : Nat, i ≤ s.size ∧ i ≤ ds.length ∧ iv = .int .i64 i ∧ wr = w.drewN n ∧ pl ds s.data.toList = pl (ds.drop i) (s.data.toList.drop i)) (fun iv _ => s.size - (RowKit.intOf iv).toNat)
  case atStart => exact ⟨0, 0, Nat.zero_le _, Nat.zero_le _, rfl, rfl, by simp⟩
  case round =>
    obtain ⟨i, n, hi, hi2, rfl, hw, hp⟩ := hrel
    subst hw
    by_cases hlt : i < s.size
    · by_cases hl2 : i < ds.length
      · obtain ⟨x, hx⟩ : ∃ x, ds[i]? = some x := ⟨ds[i], by simp⟩
        have cx : w.cell? ⟨D, i, none⟩ = some (byteV x) := unhide hd' i x hx
        unfold byteV at cx
        have e1 : ds.drop i = x :: ds.drop (i + 1) := by
          rw [List.drop_eq_getElem_cons hl2]
          congr 1
          rw [List.getElem?_eq_getElem hl2] at hx
          exact Option.some.inj hx
        have e2 := drop_byte s i hlt
        rw [e1, e2, pl] at hp
        by_cases hxs : x = s[i]
        · rw [if_pos hxs] at hp
          have hp' := hide hp
          clear hp e1 e2 hx
          subst hxs
          go_wp2
          go_quiet (fail)
          go_wp2
          go_roundw
          case rel => exact ⟨i + 1, n + nq, by omega, by omega, by go_num, rfl, unhide hp'⟩
          case measure => simp [RowKit.intOf]; omega
        · rw [if_neg hxs] at hp
          have hp' := hide hp
          have hxI : ¬ ((x.toNat : Int) = (s[i].toNat : Int)) := fun e => hxs (byte_eqI _ _ e)
          clear hp e1 e2 hx
          go_wp2
          go_quiet (fail)
          obtain ⟨n2, hn2⟩ : ∃ n2, n2 = nq := ⟨_, rfl⟩
          rw [← hn2]
          clear hn2
          go_wp2
          go_quiet (fail)
          go_wp2
          go_ret
          exact ⟨by rw [unhide hp']; congr 2, n + n2 + nq, by simp only [World.drewN_drewN, Nat.add_assoc]⟩
      · have hr : Hid (pl ds s.data.toList = true) := by
          rw [Hid, hp, List.drop_of_length_le (by omega), drop_byte s i hlt]; rfl
        clear hp
        go_wp2
        go_ret
        exact ⟨by rw [unhide hr]; rfl, n, rfl⟩
    · have hr : Hid (pl ds s.data.toList = false) := by
        rw [Hid, hp, drop_end s i (by omega)]
        cases ds.drop i <;> rfl
      clear hp
      go_wp2
      go_ret
      exact ⟨by rw [unhide hr]; rfl, n, rfl⟩

end Go.Proofs.Qxb6614069aDoor
