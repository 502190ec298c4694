import Derived.Test.Qxb6614069aDoorBase
import Derived.Lib.ItoaWalk
import Derived.Lib.ItoaMem
import Derived.Lib.AppendIntMem
import Derived.Lib.Walk
namespace Go.Proofs.Qxb6614069aDoor
open Go.RowKit Go.Sort Go.Lib

/-- The table that numDigits reads. -/
def PowTab (w : World) : Prop := Lib.TabIs Tryd.prog w powName .u64 Lib.pow10Tab

set_option maxRecDepth 100000 in
set_option maxHeartbeats 1000000 in
theorem appendUint_small (u : Nat) (hu : u < 100) (v : Value) (L : List UInt8) (w : World) (hown : w.ownsRow 0 5 1 v L.length (L.map byteV)) (hL : L.length ≤ 1073741824) :
    Calls Tryd.prog 25 #[v, .int .u64 u, .int .i64 10] w (AppP w v (L ++ Lib.decDigits u)) := by
  have hlen : (Lib.decDigits u).length ≤ 20 := by
    rw [Lib.decDigits_length]
    by_cases h10 : u < 10
    · rw [Lib.nDigits_small h10]; omega
    · rw [Lib.nDigits_big h10, Lib.nDigits_small (show u / 10 < 10 by omega)]; omega
  have HS := hide (Tryd.internal_strconv_small u hu)
  have hA := hide (AppR.refl hown)
  obtain ⟨D, hD⟩ : ∃ D, D = Lib.decDigits u := ⟨_, rfl⟩
  rw [← hD] at HS hlen ⊢
  clear hown hD
  go_enter Tryd.func25, Tryd.ntmps25
  go_wp2_with fail
  refine (unhide HS _).mono ?_
  rintro e w' ⟨rfl, hw⟩
  replace hw := hw.symm
  subst hw
  go_wp2_with (at_builtin; refine wpList_appS rfl _ _ rfl w v v L D _ (unhide hA) rfl rfl (by omega) ?_)
  intro v' w1 hA1
  have hA1' := hide hA1
  clear hA1
  go_wp2
  go_ret
  exact ⟨_, rfl, unhide hA1'⟩

theorem fmt_cells (w : World) (u k v' : Nat) (dk : Array UInt8) (T : TypeId) (hn : Lib.nDigits u ≤ 24) (hF : FmtInv (Lib.nDigits u) u 0 v' dk) :
    ∀ j u', ((Lib.decDigits u).map byteV)[j]? = some u' → ((putRow (fun (b : UInt8) => Value.int .u8 (b.toNat : Int)) (w.alloc (.cells Lib.zeros24 T)) w.heap.size 0 dk).drewN k).cell? ((⟨w.heap.size, 0, none⟩ : Addr).add j) = some u' := by
  intro j u' hj
  have hjl : j < (Lib.decDigits u).length := by
    have h5 := (List.getElem?_eq_some_iff.1 hj).1
    rwa [List.length_map] at h5
  have e5 : ((Lib.decDigits u).map byteV)[j]? = some (Value.int .u8 ((Lib.decDigits u)[j].toNat : Int)) := by simp [byteV, hjl]
  rw [e5] at hj
  cases hj
  rw [Lib.row_is_numeral hF j hjl, Lib.add_plain, World.cell?_drewN]
  exact cell?_putRow (fun (b : UInt8) => Value.int .u8 (b.toNat : Int)) _ w.heap.size 0 _ dk (Lib.holds_zero0 w T (Lib.nDigits u) hn) (by rw [hF.size, Array.size_replicate]) j (by rw [hF.size]; rw [Lib.decDigits_length] at hjl; exact hjl)

theorem fmt_grown (w : World) (k : Nat) (dk : Array UInt8) (T : TypeId) : w.grownBy ((putRow (fun (b : UInt8) => Value.int .u8 (b.toNat : Int)) (w.alloc (.cells Lib.zeros24 T)) w.heap.size 0 dk).drewN k) none := by
  obtain ⟨os, eo⟩ := Lib.fin_at w (.cells Lib.zeros24 T) dk k 0
  rw [eo]
  exact ⟨rfl, rfl, rfl, Lib.size_grow w k os, fun j hj _ => Lib.heap_grow_old w k os j hj⟩

set_option maxRecDepth 100000 in
set_option maxHeartbeats 1000000 in
theorem appendUint_big (u : Nat) (hu : 100 ≤ u) (hu64 : u < 18446744073709551616) (v : Value) (L : List UInt8) (w : World) (hown : w.ownsRow 0 5 1 v L.length (L.map byteV)) (hL : L.length ≤ 1073741824) (htab : PowTab w) :
    Calls Tryd.prog 25 #[v, .int .u64 u, .int .i64 10] w (AppP w v (L ++ Lib.decDigits u)) := by
  have hu1 : 1 ≤ u := by omega
  have hnd20 : Lib.nDigits u ≤ 20 := by have := Lib.numDigits_eq u hu1 hu64; split at this <;> omega
  have hal : Tryd.prog.arrayLen 77 = 24 := by simp [Program.arrayLen, Tryd.underlying77]
  have hsl : ∀ W, (Instr.sliceAt 77 (.pointer (some ⟨w.heap.size, 0, none⟩)) none (some (.int .i64 (Lib.nDigits u : Int))) none).run Tryd.prog W = .ok (.slice (some ⟨w.heap.size, 0, none⟩) (Lib.nDigits u) 24) W := fun W => by
    rw [run_sliceAt_array_h W 77 ⟨w.heap.size, 0, none⟩ (by simp [Program.arrayLen, Program.elem, Tryd.underlying77]) .i64 (Lib.nDigits u : Int) (by omega) (by rw [hal]; omega)]
    go_simp
  have HN := hide (Tryd.internal_strconv_numDigits u hu1 hu64 (w.alloc (.cells Lib.zeros24 77)) (Lib.tabIs_alloc htab _))
  have hfmt := Tryd.internal_strconv_formatBase10 w.heap.size 0 24 u (Array.replicate (Lib.nDigits u) 0) (w.alloc (.cells Lib.zeros24 77)) (Lib.holds_zero0 w 77 (Lib.nDigits u) (by omega)) (by rw [Array.size_replicate]; exact Lib.lt_pow_nDigits u) hu64 (by rw [Array.size_replicate]; omega)
  rw [Array.size_replicate] at hfmt
  have HF := hide hfmt
  have iu : (100 : Int) ≤ (u : Int) := by omega
  have hA := hide (AppR.refl hown)
  clear hal hfmt htab hown
  go_enter Tryd.func25, Tryd.ntmps25
  go_wp2_with fail
  refine (unhide HN).mono ?_
  rintro e w' ⟨rfl, hw⟩
  replace hw := hw.symm
  subst hw
  go_wp2_with fail
  refine (unhide HF).mono ?_
  rintro e w' ⟨rfl, k, v', dk, rfl, hF⟩
  have hcells := fmt_cells w u k v' dk 77 (by omega) hF
  have hA2 := (unhide hA).quiet (fmt_grown w k dk 77)
  generalize (putRow (fun (b : UInt8) => Value.int .u8 (b.toNat : Int)) (w.alloc (.cells Lib.zeros24 77)) w.heap.size 0 dk).drewN k = W2 at hcells hA2 ⊢
  clear hF HF HN
  have hA2' := hide hA2
  have hc' := hide hcells
  clear hA2 hcells hA
  go_wp2_with (at_builtin; refine wpList_appRow rfl _ _ rfl w v v L (Lib.decDigits u) _ (unhide hA2') rfl ⟨w.heap.size, 0, none⟩ 24 (by rw [Lib.decDigits_length]; rfl) (unhide hc') (by rw [Lib.decDigits_length]; omega) ?_)
  intro v2 w3 hA3
  have hA3' := hide hA3
  clear hA3
  go_wp2
  go_ret
  exact ⟨_, rfl, unhide hA3'⟩

theorem appendUint_any (u : Nat) (hu64 : u < 18446744073709551616) (v : Value) (L : List UInt8) (w : World) (hown : w.ownsRow 0 5 1 v L.length (L.map byteV)) (hL : L.length ≤ 1073741824) (htab : PowTab w) :
    Calls Tryd.prog 25 #[v, .int .u64 u, .int .i64 10] w (AppP w v (L ++ Lib.decDigits u)) := by
  by_cases h : u < 100
  · exact appendUint_small u h v L w hown hL
  · exact appendUint_big u (by omega) hu64 v L w hown hL htab

set_option maxRecDepth 100000 in
set_option maxHeartbeats 1000000 in
theorem appendUintP_any (u : Nat) (hu64 : u < 18446744073709551616) (v : Value) (L : List UInt8) (w : World) (hown : w.ownsRow 0 5 1 v L.length (L.map byteV)) (hL : L.length ≤ 1073741824) (htab : PowTab w) :
    Calls Tryd.prog 16 #[v, .int .u64 u, .int .i64 10] w (AppP w v (L ++ Lib.decDigits u)) := by
  have HC := hide (appendUint_any u hu64 v L w hown hL htab)
  clear hown htab
  go_enter Tryd.func16, Tryd.ntmps16
  go_wp2_with fail
  refine (unhide HC).mono ?_
  rintro e w' ⟨v', rfl, hA⟩
  have hA' := hide hA
  clear hA
  go_wp2
  go_ret
  exact ⟨_, rfl, unhide hA'⟩

/-- The table stands, whatever becomes of blocks from B on. -/
def PowTabB (B : Nat) (w : World) : Prop := ∀ w', Below B w w' → PowTab w'

set_option maxRecDepth 100000 in
set_option maxHeartbeats 1000000 in
theorem appendInt_any (i : Int) (h0 : -9223372036854775808 ≤ i) (h1 : i ≤ 9223372036854775807) (B : Nat) (v : Value) (L : List UInt8) (w : World) (hown : w.ownsRow 0 5 1 v L.length (L.map byteV)) (hL : L.length ≤ 1073741823) (hB : B ≤ w.heap.size) (hv : ∀ k, v.ownBlock = some k → B ≤ k) (htab : PowTabB B w) :
    Calls Tryd.prog 24 #[v, .int .i64 i, .int .i64 10] w (AppP w v (L ++ Lib.itoa i)) := by
  by_cases hneg : i < 0
  · obtain ⟨u, rfl⟩ : ∃ u : Nat, i = -(u : Int) := ⟨i.natAbs, by omega⟩
    have hu1 : 1 ≤ u := by omega
    have hu64 : u < 18446744073709551616 := by omega
    have hwr : IntKind.u64.wrap (-IntKind.u64.wrap (-(u : Int))) = (u : Int) := by rw [IntKind.wrap_u64, IntKind.wrap_u64]; omega
    rw [Lib.itoa_neg u hu1]
    have hA := hide (AppR.refl hown)
    have hv' := hide hv
    have htab' := hide htab
    clear hown htab hv
    go_enter Tryd.func24, Tryd.ntmps24
    go_wp2_with (at_builtin; refine wpList_app1 rfl _ _ rfl w v v L 45 _ (unhide hA) rfl _ rfl (by omega) ?_)
    intro v1 w1 hA1
    have HC := hide (appendUint_any u hu64 v1 (L ++ [45]) w1 hA1.own (by simp; omega) (unhide htab' w1 ((Below.refl B w).grown hA1.grown hB (unhide hv'))))
    have hA1' := hide hA1
    clear hA1
    go_wp2_with fail
    refine (unhide HC).mono ?_
    rintro e w' ⟨v', rfl, hA2⟩
    have hA2' := hide ((unhide hA1').trans hA2)
    clear hA2
    go_wp2
    go_ret
    exact ⟨_, rfl, by have := unhide hA2'; simpa using this⟩
  · obtain ⟨u, rfl⟩ : ∃ u : Nat, i = (u : Int) := ⟨i.natAbs, by omega⟩
    have hu64 : u < 18446744073709551616 := by omega
    have hwr : IntKind.u64.wrap (u : Int) = (u : Int) := by rw [IntKind.wrap_u64]; omega
    have e1 : Lib.itoa (u : Int) = Lib.decDigits u := by unfold Lib.itoa; rw [if_neg hneg]; rfl
    rw [e1]
    have HC := hide (appendUint_any u hu64 v L w hown (by omega) (htab w (Below.refl _ _)))
    clear hown htab hv e1
    go_enter Tryd.func24, Tryd.ntmps24
    go_wp2_with fail
    refine (unhide HC).mono ?_
    rintro e w' ⟨v', rfl, hA2⟩
    have hA2' := hide hA2
    clear hA2
    go_wp2
    go_ret
    exact ⟨_, rfl, unhide hA2'⟩

set_option maxRecDepth 100000 in
set_option maxHeartbeats 1000000 in
theorem appendIntP_any (i : Int) (h0 : -9223372036854775808 ≤ i) (h1 : i ≤ 9223372036854775807) (B : Nat) (v : Value) (L : List UInt8) (w : World) (hown : w.ownsRow 0 5 1 v L.length (L.map byteV)) (hL : L.length ≤ 1073741823) (hB : B ≤ w.heap.size) (hv : ∀ k, v.ownBlock = some k → B ≤ k) (htab : PowTabB B w) :
    Calls Tryd.prog 15 #[v, .int .i64 i, .int .i64 10] w (AppP w v (L ++ Lib.itoa i)) := by
  have HC := hide (appendInt_any i h0 h1 B v L w hown hL hB hv htab)
  clear hown htab hv
  go_enter Tryd.func15, Tryd.ntmps15
  go_wp2_with fail
  refine (unhide HC).mono ?_
  rintro e w' ⟨v', rfl, hA⟩
  have hA' := hide hA
  clear hA
  go_wp2
  go_ret
  exact ⟨_, rfl, unhide hA'⟩

end Go.Proofs.Qxb6614069aDoor
