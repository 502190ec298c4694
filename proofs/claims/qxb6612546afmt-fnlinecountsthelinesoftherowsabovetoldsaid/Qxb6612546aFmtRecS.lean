import Derived.Test.Qxb6612546aFmtRecP
namespace Go.Proofs.Qxb6612546aFmt
open Go.RowKit

theorem Sep.congr {rows rows' : List Value} (h : Sep rows) (e : rows'.map Value.ownBlock = rows.map Value.ownBlock) : Sep rows' := by
  intro i j a b ha hb hij g hg hgb
  have h1 : (rows'.map Value.ownBlock)[i]? = some (some g) := by rw [List.getElem?_map, ha]; simp [hg]
  have h2 : (rows'.map Value.ownBlock)[j]? = some (some g) := by rw [List.getElem?_map, hb]; simp [hgb]
  rw [e, List.getElem?_map] at h1 h2
  cases hx : rows[i]? with
  | none => rw [hx] at h1; cases h1
  | some x =>
    cases hy : rows[j]? with
    | none => rw [hy] at h2; cases h2
    | some y =>
      rw [hx] at h1; rw [hy] at h2
      exact h i j x y hx hy hij g (by simpa using h1) (by simpa using h2)

theorem Lies.congr {rows rows' : List Value} {lo hi : Nat} (h : Lies lo hi rows) (e : rows'.map Value.ownBlock = rows.map Value.ownBlock) : Lies lo hi rows' := by
  intro v hv g hg
  have h1 : some g ∈ rows'.map Value.ownBlock := List.mem_map.2 ⟨v, hv, hg⟩
  rw [e] at h1
  obtain ⟨x, hx, hxg⟩ := List.mem_map.1 h1
  exact h x hx g hxg

theorem Sep.snoc {rows : List Value} {lo hi pb : Nat} (h : Sep rows) (hL : Lies lo hi rows) (hp : hi ≤ pb) : Sep (rows ++ [blkV pb]) := by
  have hidx : ∀ (k : Nat) (v : Value), (rows ++ [blkV pb])[k]? = some v → (rows[k]? = some v) ∨ (k = rows.length ∧ v = blkV pb) := by
    intro k v hk
    by_cases h6 : k < rows.length
    · left; rw [List.getElem?_append_left h6] at hk; exact hk
    · right
      have := (List.getElem?_eq_some_iff.1 hk).1
      simp at this
      obtain rfl : k = rows.length := by omega
      exact ⟨rfl, by simpa using hk.symm⟩
  have hnew : ∀ v, v ∈ rows → v.ownBlock ≠ some pb := fun v hv e => by have := (hL v hv pb e).2; omega
  intro i j a b ha hb hij g hg hgb
  rcases hidx i a ha with ha' | ⟨rfl, rfl⟩
  · rcases hidx j b hb with hb' | ⟨rfl, rfl⟩
    · exact h i j a b ha' hb' hij g hg hgb
    · have : g = pb := by simpa [blkV, Value.ownBlock] using hgb.symm
      subst this
      exact hnew a (List.mem_of_getElem? ha') hg
  · have : g = pb := by simpa [blkV, Value.ownBlock] using hg.symm
    subst this
    rcases hidx j b hb with hb' | ⟨rfl, _⟩
    · exact hnew b (List.mem_of_getElem? hb') hgb
    · exact hij rfl

/-- A record begins. -/
theorem St.start {w w2 : World} {N : Nat} {s : ByteArray} {P P2 : List UInt8} {ea : Addr} {fpr : Int} {nl nl2 : Nat} {raw raw2 last : Value} {ar af ap : Option Addr} {kr cr kf cf kp cp : Nat} {xr xf xp : List Value}
    (h : R0 w N s P ea fpr nl raw (.slice ar kr cr) (.slice af kf cf) (.slice ap kp cp) last last)
    (hr : w.ownsRow (N + 4) 5 1 (.slice ar kr cr) kr xr) (hfi : w.ownsRow (N + 4) 3 1 (.slice af kf cf) kf xf) (hfp : w.ownsRow (N + 4) 82 2 (.slice ap kp cp) kp xp)
    (hR : RdS w2 N s P2 ea fpr nl2 raw2 (.slice ar kr cr) (.slice af kf cf) (.slice ap kp cp) last) (hF : Fr (LineS N raw) w w2) (hN : NewOr w raw raw2) (nq : Nat) (pl : Int) (hpl : pl = nl2) :
    St w [raw, .slice ar kr cr, .slice af kf cf, .slice ap kp cp, last]
      (((((w2.drewN nq).setCell ⟨N + 3, 11, none⟩ (.slice ar 0 cr)).setCell ⟨N + 3, 12, none⟩ (.slice af 0 cf)).setCell ⟨N + 3, 13, none⟩ (.slice ap 0 cp)).alloc (.cells #[.int .i64 pl, .int .i64 1] 82))
      N s P2 ea fpr nl2 raw2 (.slice ar 0 cr) (.slice af 0 cf) (.slice ap 0 cp) last w2.heap.size [] [] [] 0 nl2 := by
  subst hpl
  obtain ⟨W1, hW1⟩ : ∃ W1, ((((w2.drewN nq).setCell ⟨N + 3, 11, none⟩ (.slice ar 0 cr)).setCell ⟨N + 3, 12, none⟩ (.slice af 0 cf)).setCell ⟨N + 3, 13, none⟩ (.slice ap 0 cp)) = W1 := ⟨_, rfl⟩
  have hF1 : Fr (fun k => k = N + 3) w2 W1 := by
    rw [← hW1]
    exact (((fdrew (Fr.refl _ _)).trans (fr_setCell _ _ _ _) (fun _ _ h => h)).trans (fr_setCell _ _ _ _) (fun _ _ h => h)).trans (fr_setCell _ _ _ _) (fun _ _ h => h)
  have hsz1 : W1.heap.size = w2.heap.size := by rw [← hW1]; simp [World.setCell]
  obtain ⟨i, r, n, e, bs, pr, lb, lr, off, m, xs, hRx⟩ := hR
  have hC1 : Csv W1 N fpr nl2 off raw2 (.slice ar 0 cr) (.slice af 0 cf) (.slice ap 0 cp) last := by
    rw [← hW1]
    exact ((Csv.set_rec (w := w2.drewN nq) ⟨hRx.csv.block⟩ _).set_fi _).set_fp _
  rw [hW1]
  have hal : Below W1.heap.size W1 (W1.alloc (.cells #[.int .i64 (nl2 : Int), .int .i64 1] 82)) := (Below.refl _ W1).alloc (Nat.le_refl _) _
  have hA : Fr (fun k => k = N + 3) w2 (W1.alloc (.cells #[.int .i64 (nl2 : Int), .int .i64 1] 82)) := hF1.trans (Fr.of_below (S := fun k => k = N + 3) hal) (fun _ _ h => h)
  have hAsz : (W1.alloc (.cells #[.int .i64 (nl2 : Int), .int .i64 1] 82)).heap.size = w2.heap.size + 1 := by simp [hsz1]
  have key : ∀ (j : Nat) (Y : Value), [raw, .slice ar kr cr, .slice af kf cf, .slice ap kp cp, last][j]? = some Y → j ≠ 0 → ∀ g, Y.ownBlock = some g → ¬ LineS N raw g := by
    intro j Y hY hj g hg hs
    have h1 := h.lies Y (List.mem_of_getElem? hY) g hg
    rcases hs with e | e | e
    · simp [BufS] at e; omega
    · omega
    · exact h.sep 0 j raw Y rfl hY (fun e => hj e.symm) g e hg
  have keep : ∀ (j : Nat) (Y : Value) (e sz k : Nat) (ys : List Value), [raw, .slice ar kr cr, .slice af kf cf, .slice ap kp cp, last][j]? = some Y → j ≠ 0 → w.ownsRow (N + 4) e sz Y k ys → (W1.alloc (.cells #[.int .i64 (nl2 : Int), .int .i64 1] 82)).ownsRow (N + 4) e sz Y k ys := by
    intro j Y e sz k ys hY hj ho
    refine Fr.own (Fr.own ho hF (key j Y hY hj)) hA (fun g hg e => ?_)
    have := (ho.lt g hg).1; omega
  obtain ⟨kl, xl, hl⟩ := h.rlst
  have hraw2 : ∀ g, raw2.ownBlock = some g → N + 4 ≤ g ∧ g < w2.heap.size := hRx.row.lt
  have eqb : [raw2, .slice ar 0 cr, .slice af 0 cf, .slice ap 0 cp, last].map Value.ownBlock = [raw2, .slice ar kr cr, .slice af kf cf, .slice ap kp cp, last].map Value.ownBlock := by
    simp [ownBlock_zero ar kr cr, ownBlock_zero af kf cf, ownBlock_zero ap kp cp]
  have hsep1 : Sep [raw2, .slice ar 0 cr, .slice af 0 cf, .slice ap 0 cp, last] := (h.sep.set h.lies 0 raw raw2 rfl hN).congr eqb
  have hlies1 : Lies (N + 4) w2.heap.size [raw2, .slice ar 0 cr, .slice af 0 cf, .slice ap 0 cp, last] := (h.lies.set hF.size 0 raw2 hraw2).congr eqb
  refine ⟨⟨i, r, n, e, bs, pr, lb, lr, off, m, xs, hRx.buf.fr hA (by simp [BufS]), hRx.err, hRx.pnd, hC1.fr (S := fun _ => False) (Fr.of_below hal) (fun e => e), Fr.own hRx.row hA (fun g hg e => by have := (hRx.row.lt g hg).1; omega)⟩, own_zeroN (keep 1 _ _ _ _ _ rfl (by omega) hr), own_zeroN (keep 2 _ _ _ _ _ rfl (by omega) hfi),
    ⟨[], own_zeroN (keep 3 _ _ _ _ _ rfl (by omega) hfp), by omega⟩, ⟨kl, xl, keep 4 _ _ _ _ _ rfl (by omega) hl⟩, ?_, ?_, ?_, ?_, ⟨nl2, 1, ?_, fun _ _ => rfl⟩, by simp⟩
  · exact hsep1.snoc hlies1 (Nat.le_refl _)
  · intro v hv g hg
    rw [rowsOf, List.map_nil, List.append_nil] at hv
    rw [show [raw2, .slice ar 0 cr, .slice af 0 cf, .slice ap 0 cp, last, blkV w2.heap.size] = [raw2, .slice ar 0 cr, .slice af 0 cf, .slice ap 0 cp, last] ++ [blkV w2.heap.size] from rfl, List.mem_append] at hv
    rw [hAsz]
    rcases hv with hv | hv
    · have := hlies1 v hv g hg; omega
    · have hv' : v = blkV w2.heap.size := by simpa using hv
      subst hv'
      have : g = w2.heap.size := by simpa [blkV, Value.ownBlock] using hg.symm
      obtain ⟨h1, h2⟩ := R0.bound ⟨i, r, n, e, bs, pr, lb, lr, off, m, xs, hRx⟩
      omega
  · refine hF.mono (T := OwnS N _) (fun k hk hs => ?_) |>.trans hA (fun k hk e => .inl (by omega))
    rcases hs with e | e | e
    · exact .inl (by simp [BufS] at e; omega)
    · exact .inl (by omega)
    · exact .inr ⟨raw, by simp, e⟩
  · intro v hv g hg
    rw [rowsOf, List.map_nil, List.append_nil] at hv
    rw [show [raw2, .slice ar 0 cr, .slice af 0 cf, .slice ap 0 cp, last, blkV w2.heap.size] = [raw2, .slice ar 0 cr, .slice af 0 cf, .slice ap 0 cp, last] ++ [blkV w2.heap.size] from rfl, List.mem_append] at hv
    rcases hv with hv | hv
    · have h1 : some g ∈ [raw2, .slice ar 0 cr, .slice af 0 cf, .slice ap 0 cp, last].map Value.ownBlock := List.mem_map.2 ⟨v, hv, hg⟩
      rw [eqb] at h1
      obtain ⟨x, hx, hxg⟩ := List.mem_map.1 h1
      rw [List.mem_cons] at hx
      rcases hx with rfl | hx
      · rcases hN with e | ⟨g', e, hge⟩
        · exact .inl ⟨raw, by simp, e ▸ hxg⟩
        · rw [hxg] at e; simp at e; right; omega
      · exact .inl ⟨x, List.mem_cons_of_mem _ hx, hxg⟩
    · have hv' : v = blkV w2.heap.size := by simpa using hv
      subst hv'
      have : g = w2.heap.size := by simpa [blkV, Value.ownBlock] using hg.symm
      have := hF.size
      right; omega
  · rw [← hsz1]
    show (W1.heap.push _)[W1.heap.size]? = _
    simp
end Go.Proofs.Qxb6612546aFmt
