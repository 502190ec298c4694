import Derived.Test.Qxb6614069aDoorFtoa2
namespace Go.Proofs.Qxb6614069aDoor
open Go.RowKit Go.Lib

theorem zero108_bytes : (List.range 800).all (fun j => match Tryd.zeroCells108[j]? with | some (.int .u8 0) => true | _ => false) = true := by kernel_rfl
theorem zero108_nd : Tryd.zeroCells108[800]? = some (.int .i64 0) := by kernel_rfl
theorem zero108_dp : Tryd.zeroCells108[801]? = some (.int .i64 0) := by kernel_rfl

theorem zero108_at (j : Nat) (h : j < 800) : Tryd.zeroCells108[j]? = some (.int .u8 0) := by
  have h1 := List.all_eq_true.1 zero108_bytes j (List.mem_range.2 h)
  revert h1
  cases e : Tryd.zeroCells108[j]? with
  | none => simp
  | some v =>
    intro h1
    split at h1
    · rename_i h2; rw [h2] 
    · cases h1

theorem dec_fresh (w : World) : Dec (w.alloc (.cells Tryd.zeroCells108 108)) w.heap.size (fun _ => 0) 0 0 where
  dig := fun j hj => by rw [World.cell?_alloc_new, zero108_at j hj]; rfl
  nd := by rw [World.cell?_alloc_new]; exact zero108_nd
  dp := by rw [World.cell?_alloc_new]; exact zero108_dp
  frz := fun j => World.frozen?_alloc_new _ _ _ _

theorem cheats_of {w w' : World} (h : w'.heap = w.heap) (hc : Cheats w) : Cheats w' := by
  obtain ⟨C, o, c, h1, h2, h3⟩ := hc
  refine ⟨C, o, c, h1, ?_, fun k d s hk => ⟨?_, ?_⟩⟩
  · simpa [World.cell?, h] using h2
  · simpa [World.cell?, h] using (h3 k d s hk).1
  · simpa [World.cell?, h] using (h3 k d s hk).2

/-- What the great floats print: they are whole numbers. -/
def slowText (S : Bool) (V : Nat) : List UInt8 := (if S then [45] else []) ++ decDigits V ++ [46, 48, 48]

/-- The tail: fmtEFG reads the decimal. -/
theorem slow_efg (v : Value) (L : List UInt8) (w0 w : World) (hA : AppR w0 v L v w) (hL : L.length ≤ 1048576) (S : Bool) (D V n : Nat) (dp : Int) (f : Nat → UInt8) (N t : Nat) (hV : V = N * 10 ^ t) (hN : 1 ≤ N) (hb : nDigits N + t ≤ 400) (hD : Dec w D f n dp) (hn : n = nDigits N) (hdp : dp = ((nDigits N + t : Nat) : Int))
    (hf : ∀ j, j < nDigits N → f j = dg N (nDigits N - 1 - j)) (hv : v.ownBlock ≠ some D) :
    Calls Tryd.prog 46 #[v, .bool S, .slice (some ⟨D, 0, none⟩) 800 800, .int .i64 dp, .int .i64 n, .int .i64 2, .int .u8 102, .bool false] w (AppP w v (L ++ slowText S V)) := by
  have hl := decDigits_length N
  have hp := nDigits_pos N
  have e1 := efText_int S N t hN
  have h := fmtEFG_any v L w hA.own hL S (some ⟨D, 0, none⟩) 800 800 (decDigits N) dp (by omega) (by omega) (by omega) (by omega) (by omega) (fun _ e => by rw [e] at hl; simp at hl; omega) (fun wr hwr j c hj => by
    refine ⟨D, rfl, ?_⟩
    have hjl : j < nDigits N := by rw [← hl]; exact (List.getElem?_eq_some_iff.1 hj).1
    have hk := hD.keep hwr (fun e => hv e.symm)
    rw [hk.dig j (by omega), hf j hjl]
    rw [decDigits_eq, List.getElem?_map, List.getElem?_range hjl] at hj
    simp only [Option.map_some, Option.some.injEq] at hj
    rw [hj])
  rw [hl, hdp, e1, ← hV] at h
  rw [hn, hdp]
  exact h

set_option maxRecDepth 100000 in
set_option maxHeartbeats 8000000 in
theorem ftoa_slow (b : Nat) (hb : b < 18446744073709551616) (hE1 : 1076 ≤ fExp b) (hE2 : fExp b ≤ 2046) (v : Value) (L : List UInt8) (w : World) (hown : w.ownsRow 0 5 1 v L.length (L.map byteV)) (hL : L.length ≤ 1048576) (c2 : w.cell? ⟨2, 0, none⟩ = some (.bool true))
    (hC : ∀ wr D, w.heap.size ≤ D → w.grownBy wr (some D) → Cheats wr) :
    Calls Tryd.prog 36 #[v, .float .f64 b, .int .u8 102, .int .i64 2] w (AppP w v (L ++ slowText (fNeg b) ((fMan b + 4503599627370496) * 2 ^ (fExp b - 1075)))) := by
  obtain ⟨p1, p2, p3⟩ := parts b hb
  have hA := hide (AppR.refl hown)
  have h43 := f43_run b
  obtain ⟨F, hFd⟩ : ∃ F, F = fMan b := ⟨_, rfl⟩
  obtain ⟨S, hSd⟩ : ∃ S, S = fNeg b := ⟨_, rfl⟩
  obtain ⟨E, hEd⟩ : ∃ E, E = fExp b := ⟨_, rfl⟩
  rw [← hFd] at p3
  rw [← hSd] at p1
  rw [← hEd] at p2 hE1 hE2
  have hF52 : F < 4503599627370496 := by rw [hFd]; unfold fMan; omega
  rw [← hSd, ← hFd, ← hEd]
  have pM := man_or F hF52
  obtain ⟨M, hM⟩ : ∃ M, M = F + 4503599627370496 := ⟨_, rfl⟩
  rw [← hM] at pM ⊢
  have hMp : 1 ≤ M := by omega
  have hM64 : M < 18446744073709551616 := by omega
  have hMI : ¬ ((M : Int) = 0) := by omega
  have hEn0 : ¬ ((E : Int) = 0) := by omega
  have hEn1 : ¬ ((E : Int) = 2047) := by omega
  obtain ⟨K, hK⟩ : ∃ K, K = E - 1075 := ⟨_, rfl⟩
  rw [← hK]
  obtain ⟨V, hV⟩ : ∃ V, V = M * 2 ^ K := ⟨_, rfl⟩
  rw [← hV]
  obtain ⟨T, hT⟩ : ∃ T, T = L ++ slowText S V := ⟨_, rfl⟩
  rw [← hT]
  obtain ⟨q, hq⟩ : ∃ q : Int, q = ((E : Int) - 1022) * 78913 / 262144 := ⟨_, rfl⟩
  have hq1 : 16 ≤ q := by omega
  have hq2 : q ≤ 309 := by omega
  have HL : Hid (∀ n X, X = (E : Int) - 1022 → Calls Tryd.prog 37 #[.int .i64 X] (w.drewN n) fun e w' => e = .returned (.int .i64 q) ∧ w' = w.drewN n) := fun n X hX => by
    subst hX
    rw [hq]
    exact log10_any _ (by omega) (by omega) (w.drewN n)
  have HAs : Hid (∀ n, Calls Tryd.prog 50 #[.pointer (some ⟨w.heap.size, 0, none⟩), .int .u64 M] ((w.drewN n).alloc (.cells Tryd.zeroCells108 108)) (AsgP ((w.drewN n).alloc (.cells Tryd.zeroCells108 108)) w.heap.size M)) := fun n =>
    assign_any _ w.heap.size M _ 0 (dec_fresh (w.drewN n)) hMp hM64
  have hgA : Hid (∀ n, w.grownBy ((w.drewN n).alloc (.cells Tryd.zeroCells108 108)) (some w.heap.size)) := fun n => grownBy_then (grownBy_drew w n _) (World.grownBy_alloc _ _ _) (.inl rfl)
  have HSh : Hid (∀ wx X, X = (K : Int) → DN wx w.heap.size M 20 → w.grownBy wx (some w.heap.size) → Calls Tryd.prog 51 #[.pointer (some ⟨w.heap.size, 0, none⟩), .int .i64 X] wx (ShP wx w.heap.size V 400)) := fun wx X hX hD hg => by
    subst hX
    rw [hV]
    exact shift_any wx w.heap.size M K hD (by omega) (by omega) (fun wr hwr => hC wr w.heap.size (Nat.le_refl _) (grownBy_then hg hwr (.inl rfl)))
  have hvD : Hid (v.ownBlock ≠ some w.heap.size) := fun e => by have := (hown.lt _ e).2; omega
  have hT' := hide hT
  have hKE : Hid ((K : Int) = (E : Int) - 1075) := by rw [Hid]; omega
  have hC' := hide hC
  clear hFd hSd hEd hown hT hM hq hK hV hC
  go_enter Tryd.func36, Tryd.ntmps36
  go_wp2
  go_quiet (fail)
  go_wp2_with fail
  refine (unhide HL nq _ ?_).mono ?_
  · omega
  rintro e w' ⟨rfl, hw⟩
  replace hw := hw.symm
  subst hw
  go_wp2_with fail
  refine (unhide HAs nq).mono ?_
  rintro e w2 ⟨rfl, hDN2, hg2⟩
  have hg2' := hide (grownBy_then (unhide hgA nq) hg2 (.inl rfl))
  have hDN2' := hide hDN2
  clear hg2 hDN2
  go_wp2_with fail
  refine (unhide HSh _ _ ?_ (unhide hDN2') (unhide hg2')).mono ?_
  · have := unhide hKE; omega
  rintro e w3 ⟨rfl, ⟨N, t, f, hVN, hN1, hNt, hD3, hf⟩, hg3⟩
  have hg3' := hide (grownBy_then (unhide hg2') hg3 (.inl rfl))
  have d800 := hD3.nd
  have d801 := hD3.dp
  have hA3 := hide ((unhide hA).own.kept (unhide hg3') (.inr (unhide hvD)))
  have hn1 := nDigits_pos N
  obtain ⟨n, hn⟩ : ∃ n, n = nDigits N := ⟨_, rfl⟩
  obtain ⟨dp, hdp⟩ : ∃ dp : Int, dp = ((nDigits N + t : Nat) : Int) := ⟨_, rfl⟩
  rw [← hdp] at d801
  rw [← hn] at d800
  have hdp1 : (n : Int) ≤ dp + 2 := by omega
  have hdp0 : 1 ≤ dp := by omega
  have hdp9 : dp ≤ 400 := by omega
  have HRd := hide (fun (X : Int) (h : X = dp + 2) => round_any w3 w.heap.size n X d800 (by omega) (by omega))
  have HE : Hid (∀ m, Calls Tryd.prog 46 #[v, .bool S, .slice (some ⟨w.heap.size, 0, none⟩) 800 800, .int .i64 dp, .int .i64 n, .int .i64 2, .int .u8 102, .bool false] (w3.drewN m) (AppP (w3.drewN m) v T)) := fun m => by
    rw [unhide hT']
    exact slow_efg v L _ _ (AppR.refl ((unhide hA3).kept (grownBy_drew w3 m none) (by cases hv : v.ownBlock <;> simp))) hL S w.heap.size V n dp f N t hVN hN1 hNt (by rw [hn, hdp]; exact hD3.keep (grownBy_drew w3 m none) (by simp)) hn hdp hf (unhide hvD)
  have hg3n : Hid (∀ m, AppR w v L v (w3.drewN m) → True) := fun _ _ => trivial
  clear hD3 hf hVN hNt hg3 HL HAs HSh hgA hDN2' hn1 hg3n hC' hn hdp hN1
  go_wp2_with fail
  refine (unhide HRd _ ?_).mono ?_
  · omega
  rintro e w' ⟨rfl, hw⟩
  replace hw := hw.symm
  subst hw
  go_upto_region 90 with fail
  go_region_held3 (fun wx => wx.cell? ⟨w.heap.size, 800, none⟩ = some (.int .i64 n) ∧ wx.cell? ⟨w.heap.size, 801, none⟩ = some (.int .i64 dp))
    (first | exact ⟨d800, d801⟩ | exact hkeep)
    (first | (go_at_call 46; refine (unhide HE 1).mono ?_; rintro en w4 ⟨v', rfl, hA4⟩; have hkeep : w4.cell? ⟨w.heap.size, 800, none⟩ = some (.int .i64 n) ∧ w4.cell? ⟨w.heap.size, 801, none⟩ = some (.int .i64 dp) := ⟨by rw [World.cell?_of_block (a := ⟨w.heap.size, 800, none⟩) (hA4.grown.block w.heap.size (World.block_lt_of_cell? w3 _ d800) (fun e => unhide hvD e.symm))]; exact d800, by rw [World.cell?_of_block (a := ⟨w.heap.size, 801, none⟩) (hA4.grown.block w.heap.size (World.block_lt_of_cell? w3 _ d800) (fun e => unhide hvD e.symm))]; exact d801⟩; have hA4' := hide hA4; clear hA4))
  go_wp2
  go_ret
  refine ⟨_, rfl, ?_⟩
  have h4 := unhide hA4'
  have hg3w : w.grownBy (w3.drewN 1) (some w.heap.size) := grownBy_then (unhide hg3') (grownBy_drew w3 1 _) (.inl rfl)
  have hgv : w.grownBy (w3.drewN 1) v.ownBlock := ⟨hg3w.os, hg3w.tape, hg3w.output, hg3w.size, fun k hk _ => hg3w.block k hk (by simp; omega)⟩
  refine ⟨h4.own, grownBy_then hgv h4.grown (.inl rfl), ?_⟩
  rcases h4.at_ with e | ⟨k, e, hk⟩
  · exact .inl e
  · exact .inr ⟨k, e, Nat.le_trans hgv.size hk⟩

end Go.Proofs.Qxb6614069aDoor
