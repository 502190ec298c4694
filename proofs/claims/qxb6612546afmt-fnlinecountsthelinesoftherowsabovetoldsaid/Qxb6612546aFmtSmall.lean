import Derived.Test.Qxb6612546aFmtLine1
import Derived.Test.Qxb6612546aFmtShelf2
import Derived.Laws.RangeString
import Derived.Laws.RangeAny
namespace Go.Proofs.Qxb6612546aFmt
open Go.RowKit

/-- All that is known of the package-level variables. -/
structure Env (w : World) (N : Nat) (ea fa : Addr) : Prop where
  glob : Glob w N ea fa
  tabs : Lib.Utf8Tabs 10 11 w
  big : 11 < N

theorem Env.below {w w' : World} {N : Nat} {ea fa : Addr} (h : Env w N ea fa) (hb : Below N w w') : Env w' N ea fa := by
  have h1 := h.big
  exact ⟨h.glob.below hb, ⟨fun c hc => by rw [hb.cell (p := ⟨10, c, none⟩) (by show 10 < N; omega)]; exact h.tabs.1 c hc, fun i hi => ⟨by rw [hb.cell (p := ⟨11, 2 * i, none⟩) (by show 11 < N; omega)]; exact (h.tabs.2 i hi).1, by rw [hb.cell (p := ⟨11, 2 * i + 1, none⟩) (by show 11 < N; omega)]; exact (h.tabs.2 i hi).2⟩⟩, h1⟩

theorem Env.fr {S : Nat → Prop} {w w' : World} {N : Nat} {ea fa : Addr} (h : Env w N ea fa) (hf : Fr S w w') (hS : ∀ k, S k → N ≤ k) (hN : N ≤ w.heap.size) : Env w' N ea fa :=
  h.below (hf.to_below (fun k hk hs => by have := hS k hs; omega) hN)

/-- The trailing line feed, counted. -/
def nlOf (l : List UInt8) : Nat := if l.getLast? = some 10 then 1 else 0

set_option maxRecDepth 100000 in
theorem lengthNL_any (a : Option Addr) (c n : Nat) (l : List UInt8) (w : World) (hl : l.length = n) (hB : BytAt w a l) (hn : n ≤ 1048576000) :
    Calls Tryf.prog 55 #[.slice a n c] w fun e w' => e = .returned (.int .i64 (nlOf l)) ∧ w' = w := by
  by_cases h0 : l = []
  · subst h0
    obtain rfl : n = 0 := by simpa using hl.symm
    go_enter Tryf.func55, Tryf.ntmps55
    go_wp2
    go_ret
    exact ⟨by simp [nlOf], rfl⟩
  · obtain ⟨k, hk⟩ : ∃ k, n = k + 1 := ⟨n - 1, by have := List.length_pos_iff.2 h0; omega⟩
    obtain ⟨b, hb⟩ : ∃ b, l[k]? = some b := ⟨l[k]'(by omega), by simp⟩
    obtain ⟨g, o, rfl, hc⟩ := hB k b hb
    unfold byteV at hc
    have hlast : l.getLast? = some b := by rw [List.getLast?_eq_getElem?, hl, hk]; simpa using hb
    have hkI : (n : Int) - 1 = (k : Int) := by omega
    have hlt : (k : Int) < n := by omega
    have hp : (0 : Int) < n := by omega
    have hlast' := hide hlast
    clear hlast hb hB hl hk
    by_cases h10 : b = 10
    · subst h10
      go_enter Tryf.func55, Tryf.ntmps55
      go_wp2
      go_ret
      exact ⟨by simp [nlOf, unhide hlast'], rfl⟩
    · have h10' : ¬ ((b.toNat : Int) = 10) := fun e => h10 (byte_eq _ 10 e)
      go_enter Tryf.func55, Tryf.ntmps55
      go_wp2
      go_ret
      exact ⟨by simp [nlOf, unhide hlast', h10], rfl⟩

theorem get_eq (s : ByteArray) (j : Nat) (h : j < s.size) : s.get! j = s[j] := by
  show s.data[j]! = s.data[j]
  exact getElem!_pos s.data j h

def RunePost (l : List UInt8) (w : World) (e : Ending) (w' : World) : Prop :=
  ∃ r : Nat, e = .returned (.int .i32 r) ∧ Below w.heap.size w w' ∧ (l = [] → r = 65533) ∧ (∀ b t, l = b :: t → (b.toNat < 128 → r = b.toNat) ∧ (128 ≤ b.toNat → 128 ≤ r))

set_option maxRecDepth 100000 in
theorem nextRune_any (g o c n : Nat) (l : List UInt8) (w : World) (hl : l.length = n) (hB : BytAt w (some ⟨g, o, none⟩) l) (hT : Lib.Utf8Tabs 10 11 w) :
    Calls Tryf.prog 54 #[.slice (some ⟨g, o, none⟩) n c] w (RunePost l w) := by
  obtain ⟨s, hs⟩ : ∃ s : ByteArray, s.data.toList = l := ⟨⟨l.toArray⟩, by simp⟩
  have hsz : s.size = n := by rw [← hl, ← hs]; simp
  have HD := hide (Tryf.utf8_DecodeRune s g o c w hT (fun j hj => by
    obtain ⟨g', o', h1, h2⟩ := hB j s[j] (by rw [← hs]; simp [hj]; rfl)
    cases h1
    rw [h2, get_eq s j hj]
    rfl))
  rw [hsz] at HD
  have hfin : Hid (∀ w', Below w.heap.size w w' → RunePost l w (.returned (.int .i32 (Lib.decodeGo s).1)) w') := by
    intro w' hb
    refine ⟨_, rfl, hb, ?_, ?_⟩
    · rintro rfl
      have : s.size = 0 := by rw [hsz, ← hl]; rfl
      simp [Lib.decodeGo, this]
    · rintro b t rfl
      have h0 : 0 < s.size := by rw [hsz, ← hl]; simp
      have hb0 : s[0] = b := by
        have : s.data.toList[0]? = some b := by rw [hs]; rfl
        have h2 : s.data.toList[0]? = some s[0] := by simp [h0]; rfl
        rw [h2] at this; simpa using this
      have hd : Lib.decodeGo s = Utf8.decode s 0 := by
        unfold Lib.decodeGo
        rw [if_neg (by omega)]
      rw [hd]
      refine ⟨fun hlt => ?_, fun hge => ?_⟩
      · rw [decode_ascii s 0 h0 (by rw [hb0]; exact hlt), hb0]
      · exact (decode_high s 0 h0 (by rw [hb0]; exact hge)).1
  clear hB hs hsz hl
  go_enter Tryf.func54, Tryf.ntmps54
  go_wp2_with fail
  refine (unhide HD).mono ?_
  rintro e w' ⟨rfl, hb⟩
  have hb' := hide hb
  clear hb HD
  go_wp2
  go_ret
  exact unhide hfin _ (unhide hb')

set_option maxRecDepth 100000 in
theorem validDelim_comma (w : World) : Calls Tryf.prog 52 #[.int .i32 44] w fun e w' => e = .returned (.bool true) ∧ w' = w := by
  have HV := hide (Tryf.utf8_ValidRune 44 w)
  go_enter Tryf.func52, Tryf.ntmps52
  go_wp2_with fail
  refine (unhide HV).mono ?_
  rintro e w' ⟨rfl, hw⟩
  replace hw := hw.symm
  subst hw
  have hv : Lib.validRune 44 = true := by decide
  go_wp2
  go_ret
  exact ⟨rfl, rfl⟩

set_option maxRecDepth 100000 in
theorem indexComma_any (a : Option Addr) (n c : Nat) (l : List UInt8) (q : Int) (w : World) (hl : l.length = n) (hA : BytAt w a l) (hnil : a = none → c = 0) (hq : Lib.indexByte l 44 = q) :
    Calls Tryf.prog 60 #[.slice a n c, .int .i32 44] w fun e w' => e = .returned (.int .i64 q) ∧ w' = w := by
  have HI := hide (index_any a n c l 44 q w hl hA hnil hq)
  clear hl hA hnil hq
  go_enter Tryf.func60, Tryf.ntmps60
  go_wp2_with fail
  refine (unhide HI).mono ?_
  rintro e w' ⟨rfl, hw⟩
  replace hw := hw.symm
  subst hw
  go_wp2
  go_ret
  exact ⟨rfl, rfl⟩
end Go.Proofs.Qxb6612546aFmt
