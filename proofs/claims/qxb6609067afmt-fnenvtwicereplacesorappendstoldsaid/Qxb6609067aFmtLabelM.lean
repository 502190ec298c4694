import Derived.Test.Qxb6609067aFmtLabel
namespace Go.Proofs.Qxb6609067aFmt
open Go.RowKit

/-- The append as one step of a region that draws. -/
theorem step_append_where {P : Program} {ops : Array Oper} {o : Oper} {a : Act} {w : World} {K : Act → World → Prop} {Q : Exit → Act → World → Prop} {E : Prop}
    (hgd : o.guard = none) (s x : Operand) (t : TypeId) (ho : o.op = .call { callee := .builtin .append, args := #[s, x], argTypes := #[t, t] })
    (base : Nat) (e : TypeId) (i : TypeInfo) (z : Value) (size bytes : Nat) (ht : P.underlying t = some (.slice e)) (hi : P.info? e = some i) (hz : i.zero = some z)
    (hsize : i.size = size) (hby : i.bytes = bytes) (hzs : z.cells.size = size) (hsz : 0 < size)
    (v : Value) (n : Nat) (xs : List Value) (hs : a.eval s = v) (hown : w.ownsRow base e size v n xs)
    (ad : Addr) (m c : Nat) (news : List Value) (hx : a.eval x = .slice (some ad) m c) (hl : news.length = m * size) (hnews : ∀ j u, news[j]? = some u → w.cell? (ad.add j) = some u) (h1 : ∀ u ∈ news, u.oneCell' = true)
    (h63 : n + m ≤ maxLen) (hbytes : (n + m) * bytes ≤ 140737488355328) (hbase : base ≤ w.heap.size)
    (h : ∀ v' w', w'.ownsRow base e size v' (n + m) (xs ++ news) → w.grownBy w' v.ownBlock → (v' = .slice none 0 0 ↔ v = .slice none 0 0 ∧ m = 0) → (v'.ownBlock = v.ownBlock ∨ v'.ownBlock = some w.heap.size) → K (a.put o.dst v') w') :
    if Region.wanted o (yielded ops a.tmps) = true then Oper.wp P o a w K Q else E := by
  have hw : Region.wanted o (yielded ops a.tmps) = true := by simp [Region.wanted, hgd]
  rw [if_pos hw]
  obtain ⟨v', w', hr, h2, h3, h4, h5⟩ := append_where (P := P) w base t o.type e i z size bytes ht hi hz hsize hby hzs hsz v n xs hown ad m c news hl hnews h1 h63 hbytes hbase
  unfold Oper.wp
  simp [execOp, ho, resolve, invoke, builtin, hs, hx, hr, Result.andThen]
  exact h v' w' h2 h3 h4 h5

theorem grown_drewN {w w' : World} {n : Nat} {r : Option Nat} (h : (w.drewN n).grownBy w' r) : w.grownBy w' r := ⟨h.os, h.tape, h.output, h.size, h.block⟩

/-- The pairs of the words, up to the first that is none; is there one that is none? -/
def labelL (s : ByteArray) : List (Int × Int × Int) → List (ByteArray × ByteArray) × Bool
  | [] => ([], false)
  | t :: r => if t.2.2 ≤ t.1 then ([], true) else ((s.extract t.1.toNat t.2.2.toNat, s.extract (t.2.2.toNat + 1) t.2.1.toNat) :: (labelL s r).1, (labelL s r).2)

def label (s : ByteArray) : List (ByteArray × ByteArray) × Bool := if (allW s).2 = true then labelL s (allW s).1 else ([], true)

def LabelPost (s : ByteArray) (w : World) (e : Ending) (w' : World) : Prop :=
  ∃ v1 v2, e = .returned (.tuple #[v1, v2, .bool (label s).2]) ∧ StrS w' v1 ((label s).1.map Prod.fst) ∧ StrS w' v2 ((label s).1.map Prod.snd) ∧ Below w.heap.size w w' ∧ (∀ g, v1.ownBlock = some g → w.heap.size ≤ g) ∧ (∀ g, v2.ownBlock = some g → w.heap.size ≤ g)

theorem own_ge {w : World} {base e size n : Nat} {v : Value} {xs : List Value} (h : w.ownsRow base e size v n xs) : ∀ g, v.ownBlock = some g → base ≤ g := by
  intro g hg
  rcases h.2 with ⟨rfl, _⟩ | ⟨g', cap, cur, rfl, hb, _⟩
  · simp [Value.ownBlock] at hg
  · simp [Value.ownBlock] at hg; omega

/-- What is known of the words. -/
theorem words_ok (s : ByteArray) (h : (allW s).2 = true) : ∀ t ∈ (allW s).1, ∃ p b : Nat, t.1 = (p : Int) ∧ t.2.1 = ((p + b : Nat) : Int) ∧ p + b ≤ s.size ∧ t.2.2 = Pl.eqAt 0 p ((s.data.toList.drop p).take b) ∧ (t.2.2 = -1 ∨ ((p : Int) ≤ t.2.2 ∧ t.2.2 < ((p + b : Nat) : Int))) := by
  intro t ht
  obtain ⟨p, b, h1, h2, h3, h4⟩ := (Pl.W_law s.data.toList).1 0 h t ht
  simp only [Nat.zero_add] at h1 h2 h4
  have h3' : p + b ≤ s.size := by simpa using h3
  refine ⟨p, b, h1, h2, h3', h4, ?_⟩
  rw [h4]
  rcases Pl.eqAt_bounds ((s.data.toList.drop p).take b) 0 p with h | h
  · exact .inl h
  · right
    have : ((s.data.toList.drop p).take b).length ≤ b := List.length_take_le _ _
    omega

/-- How many words there can be. -/
theorem W_count : ∀ (l : List UInt8) (skip i : Nat) (start eq : Int), (Pl.W skip i start eq l).1.length ≤ l.length + 1 := by
  intro l
  induction l with
  | nil => intro skip i start eq; rw [Pl.W]; split <;> simp
  | cons c r ih =>
    intro skip i start eq
    cases skip with
    | succ n => rw [Pl.W]; have := ih n (i + 1) start eq; simp; omega
    | zero =>
      rw [Pl.W]
      split
      · split
        · have := ih 0 (i + 1) (-1) (-1); simp; omega
        · have := ih 0 (i + 1) start eq; simp; omega
      · split
        · simp
        · simp only [List.length_cons]
          exact Nat.le_trans (ih _ _ _ _) (by omega)

theorem allW_count (s : ByteArray) : (allW s).1.length ≤ s.size + 1 := by
  have := W_count s.data.toList 0 0 (-1) (-1)
  simpa [allW] using this

abbrev PP := List (ByteArray × ByteArray) × Bool
def joinP (outs : List (ByteArray × ByteArray)) (x : PP) : PP := (outs ++ x.1, x.2)

theorem joinP_bad {s : ByteArray} {outs : List (ByteArray × ByteArray)} {t : Int × Int × Int} {r : List (Int × Int × Int)} (h : t.2.2 ≤ t.1) : joinP outs (labelL s (t :: r)) = (outs, true) := by
  rw [labelL, if_pos h]; simp [joinP]

theorem joinP_step {s : ByteArray} {outs : List (ByteArray × ByteArray)} {t : Int × Int × Int} {r : List (Int × Int × Int)} (h : ¬ t.2.2 ≤ t.1) :
    joinP outs (labelL s (t :: r)) = joinP (outs ++ [(s.extract t.1.toNat t.2.2.toNat, s.extract (t.2.2.toNat + 1) t.2.1.toNat)]) (labelL s r) := by
  rw [labelL, if_neg h]; simp [joinP]

theorem IntS.cellAt {w : World} {a : Option Addr} {n c : Nat} {zs : List Int} (h : IntS w (.slice a n c) zs) : zs.length = n ∧ ∀ i z, zs[i]? = some z → ∃ b o, a = some ⟨b, o, none⟩ ∧ w.cell? ⟨b, o + i, none⟩ = some (.int .i64 z) := by
  obtain ⟨a', c', he, _, _, hcell⟩ := h
  simp at he
  obtain ⟨rfl, rfl, rfl⟩ := he
  exact ⟨rfl, hcell⟩

def p1 (outs : List (ByteArray × ByteArray)) : List Value := outs.map fun p => Value.string p.1
def p2 (outs : List (ByteArray × ByteArray)) : List Value := outs.map fun p => Value.string p.2

theorem p_len (outs : List (ByteArray × ByteArray)) : (p1 outs).length = outs.length ∧ (p2 outs).length = outs.length := by simp [p1, p2]

set_option maxRecDepth 100000 in
set_option maxHeartbeats 4000000 in
theorem labelModel_any (s : ByteArray) (w : World) (hs : s.size ≤ 1048576) : Calls Tryf.prog 17 #[.string s] w (LabelPost s w) := by
  have HS := hide (scan_any s w hs)
  unfold ScanPost at HS
  obtain ⟨L, hL0⟩ : ∃ L, L = label s := ⟨_, rfl⟩
  unfold LabelPost
  rw [← hL0]
  have hcnt := allW_count s
  cases hcl : (allW s).2 with
  | false =>
    have hL : Hid (L = ([], true)) := by rw [hL0, label, hcl]; simp [Hid]
    rw [hcl] at HS
    clear hL0
    go_enter Tryf.func17, Tryf.ntmps17
    go_wp2_with fail
    refine (unhide HS).mono ?_
    rintro e w1 ⟨v1, v2, v3, rfl, h1, h2, h3, hb⟩
    have hb' := hide hb
    clear hb h1 h2 h3 HS
    go_wp2
    go_ret3
    rw [unhide hL]
    exact ⟨_, _, rfl, StrS.nil _, StrS.nil _, unhide hb', fun g hg => by simp [Value.ownBlock] at hg, fun g hg => by simp [Value.ownBlock] at hg⟩
  | true =>
    have hok := hide (words_ok s hcl)
    have hL : Hid (L = joinP [] (labelL s (allW s).1)) := by rw [hL0, label, hcl]; simp [Hid, joinP]
    rw [hcl] at HS
    clear hL0 hcl
    generalize (allW s).1 = ws at *
    obtain ⟨i0, hi, hz0, hz1, hz2⟩ := info_parts Tryf.info9
    go_enter Tryf.func17, Tryf.ntmps17
    go_wp2_with fail
    refine (unhide HS).mono ?_
    rintro e w1 ⟨v1, v2, v3, rfl, h1, h2, h3, hb⟩
    obtain ⟨a1, c1, rfl⟩ : ∃ a c, v1 = .slice a ws.length c := by obtain ⟨a, c, rfl, _⟩ := h1; exact ⟨a, c, by simp⟩
    obtain ⟨a2, c2, rfl⟩ : ∃ a c, v2 = .slice a ws.length c := by obtain ⟨a, c, rfl, _⟩ := h2; exact ⟨a, c, by simp⟩
    obtain ⟨a3, c3, rfl⟩ : ∃ a c, v3 = .slice a ws.length c := by obtain ⟨a, c, rfl, _⟩ := h3; exact ⟨a, c, by simp⟩
    have g1 := hide h1.cellAt.2
    have g2 := hide h2.cellAt.2
    have g3 := hide h3.cellAt.2
    have hb' := hide hb
    clear hb h1 h2 h3 HS
    go_wp2
    go_loopw [9, 10, 11] (fun v1 v2 iv wr => ∃ (k : Nat) (outs : List (ByteArray × ByteArray)), k ≤ ws.length ∧ iv = .int .i64 k ∧ outs.length ≤ k ∧ Rows3 w1.heap.size 9 w1 v1 v2 (.slice none 0 0) (p1 outs) (p2 outs) [] wr ∧ Hid (L = joinP outs (labelL s (ws.drop k)))) (fun _ _ iv _ => ws.length - (intOf iv).toNat)
    case atStart =>
      exact ⟨0, [], Nat.zero_le _, rfl, by simp, ⟨World.ownsRow_nil _ _ _ _, World.ownsRow_nil _ _ _ _, World.ownsRow_nil _ _ _ _, by simp [Value.ownBlock], by simp [Value.ownBlock], by simp [Value.ownBlock], Below.refl _ _, Nat.le_refl _⟩, by simpa using hL⟩
    case round =>
      obtain ⟨k, outs, hk, rfl, hol, hR, hv⟩ := hrel
      clear hL
      by_cases hlt : k < ws.length
      · obtain ⟨t, ht⟩ : ∃ t, ws[k]? = some t := ⟨ws[k], by simp [hlt]⟩
        obtain ⟨p, b, ht1, ht2, hpb, _, ht3⟩ := unhide hok t (List.mem_of_getElem? ht)
        obtain ⟨b1, o1, he1, hcl1⟩ := unhide g1 k t.1 (by simp [ht])
        obtain ⟨b2, o2, he2, hcl2⟩ := unhide g2 k t.2.1 (by simp [ht])
        obtain ⟨b3, o3, he3, hcl3⟩ := unhide g3 k t.2.2 (by simp [ht])
        cases he1
        cases he2
        cases he3
        have hdr : ws.drop k = t :: ws.drop (k + 1) := by
          obtain ⟨_, rfl⟩ := List.getElem?_eq_some_iff.1 ht
          exact List.drop_eq_getElem_cons hlt
        rw [hdr] at hv
        rw [ht1] at hcl1
        rw [ht2] at hcl2
        have hx1 : wr.cell? ⟨b1, o1 + k, none⟩ = some (.int .i64 p) := by rw [hR.bel.cell (World.block_lt_of_cell? w1 _ hcl1)]; exact hcl1
        have hx2 : wr.cell? ⟨b2, o2 + k, none⟩ = some (.int .i64 ((p + b : Nat) : Int)) := by rw [hR.bel.cell (World.block_lt_of_cell? w1 _ hcl2)]; exact hcl2
        by_cases hbad : t.2.2 ≤ t.1
        · have hv' := hide ((unhide hv).trans (joinP_bad hbad))
          have hx3 : wr.cell? ⟨b3, o3 + k, none⟩ = some (.int .i64 t.2.2) := by rw [hR.bel.cell (World.block_lt_of_cell? w1 _ hcl3)]; exact hcl3
          have hle : t.2.2 ≤ (p : Int) := by omega
          generalize t.2.2 = q at *
          have hR' := hide hR
          clear hv hcl1 hcl2 hcl3 hR ht ht1 ht2 ht3 hdr hx2 hbad
          go_wp2
          go_quiet (fail)
          go_wp2
          go_ret3
          rw [unhide hv']
          refine ⟨_, _, rfl, ?_, ?_, ?_, fun g hg => Nat.le_trans (unhide hb').size (own_ge (unhide hR').own1 g hg), fun g hg => Nat.le_trans (unhide hb').size (own_ge (unhide hR').own2 g hg)⟩
          · exact StrS.of_own (base := w1.heap.size) (n := (p1 outs).length) (by rw [List.map_map]; exact (unhide hR').own1)
          · exact StrS.of_own (base := w1.heap.size) (n := (p2 outs).length) (by rw [List.map_map]; exact (unhide hR').own2)
          · exact ((unhide hb').trans ((unhide hR').bel.mono (unhide hb').size)).trans ⟨rfl, rfl, rfl, Nat.le_refl _, fun _ _ => rfl⟩
        · obtain ⟨q, hq⟩ : ∃ q : Nat, t.2.2 = (q : Int) := ⟨t.2.2.toNat, by omega⟩
          have hv' := (unhide hv).trans (joinP_step hbad)
          rw [ht1, ht2, hq] at hv'
          simp only [Int.toNat_natCast] at hv'
          have hv2 := hide hv'
          rw [hq] at hcl3
          have hx3 : wr.cell? ⟨b3, o3 + k, none⟩ = some (.int .i64 q) := by rw [hR.bel.cell (World.block_lt_of_cell? w1 _ hcl3)]; exact hcl3
          have hpq : p < q := by omega
          have hqb : q < p + b := by omega
          have hq1 : q ≤ s.size := by omega
          have hq2 : p ≤ q := by omega
          obtain ⟨m, hm⟩ : ∃ m, m = p + b := ⟨_, rfl⟩
          obtain ⟨q1, hq1e⟩ : ∃ q1, q1 = q + 1 := ⟨_, rfl⟩
          have hwr : IntKind.i64.wrap ((q : Int) + 1) = (q1 : Int) := by rw [hq1e]; exact IntWalk.i64_in _ ⟨by omega, by omega⟩
          have hm1 : q1 ≤ m := by omega
          have hm2 : m ≤ s.size := by omega
          rw [← hm, ← hq1e] at hv2
          rw [← hm] at hcl2 hx2
          have hmH := hide hm
          have hqH := hide hq1e
          obtain ⟨n1, n2, x1, x2⟩ : (p1 outs).length ≤ 1048577 ∧ (p2 outs).length ≤ 1048577 ∧ (p1 outs).length + 1 ≤ maxLen ∧ (p2 outs).length + 1 ≤ maxLen := by have := p_len outs; unfold maxLen; omega
          have hB := hR.base
          have hlt2 := World.block_lt_of_cell? w1 _ hcl2
          have hlt3 := World.block_lt_of_cell? w1 _ hcl3
          clear hv hv' hcl1 ht ht1 ht2 ht3 hdr hbad hq hm hq1e
          go_wp2
          go_quiet (fail)
          go_wp2
          go_region_law (refine step_append_where rfl (.tmp 40) (.tmp 51) 22 rfl w1.heap.size 9 i0 (.string ⟨#[]⟩) 1 16 Tryf.underlying22 hi hz0 hz1 hz2 rfl (by decide) u9 (p1 outs).length (p1 outs) (by simp [Act.eval]) (by exact hR.own1.alloc _) ⟨wr.heap.size, 0, none⟩ 1 1 [.string (s.extract p q)] (by simp [Act.eval]) rfl (by exact cell_one_new _ _ _) (by simp [Value.oneCell']) x1 (by omega) (by simp; omega) ?_; intro v1' w2 hown1 hgrow1 _ hwh1)
          all_goals
            have hR1 := (hR.app _ _ hown1 (grown_drewN hgrow1) (by simpa using hwh1)).rot
            have hB1 := hR1.base
            have hy2 : w2.cell? ⟨b2, o2 + k, none⟩ = some (.int .i64 m) := by rw [hR1.bel.cell hlt2]; exact hcl2
            have hy3 : w2.cell? ⟨b3, o3 + k, none⟩ = some (.int .i64 q) := by rw [hR1.bel.cell hlt3]; exact hcl3
            clear hown1 hgrow1 hwh1 hR hx1 hx2 hx3 hlt2 hlt3 hcl2 hcl3
            go_wp2
            go_region_law (refine step_append_where rfl (.tmp 53) (.tmp 65) 22 rfl w1.heap.size 9 i0 (.string ⟨#[]⟩) 1 16 Tryf.underlying22 hi hz0 hz1 hz2 rfl (by decide) u10 (p2 outs).length (p2 outs) (by simp [Act.eval]) (by exact hR1.own1.alloc _) ⟨w2.heap.size, 0, none⟩ 1 1 [.string (s.extract q1 m)] (by simp [Act.eval]) rfl (by exact cell_one_new _ _ _) (by simp [Value.oneCell']) x2 (by omega) (by simp; omega) ?_; intro v2' w3 hown2 hgrow2 _ hwh2)
            all_goals
              have hR2 := hide ((hR1.app _ _ hown2 (grown_drewN hgrow2) (by simpa using hwh2)).rot.rot)
              clear hown2 hgrow2 hwh2 hR1 hy2 hy3
              go_wp2
              go_roundw
              case rel => exact ⟨k + 1, _, by omega, by go_num, by simp; omega, by simpa [p1, p2] using unhide hR2, hv2⟩
              case measure => simp [intOf]; omega
      · have hv' : Hid (L = (outs, false)) := by
          have := unhide hv
          rw [List.drop_eq_nil_of_le (by omega)] at this
          rw [this]; simp [joinP, labelL, Hid]
        have hR' := hide hR
        clear hv hR
        go_wp2
        go_ret3
        rw [unhide hv']
        refine ⟨_, _, rfl, ?_, ?_, ?_, fun g hg => Nat.le_trans (unhide hb').size (own_ge (unhide hR').own1 g hg), fun g hg => Nat.le_trans (unhide hb').size (own_ge (unhide hR').own2 g hg)⟩
        · exact StrS.of_own (base := w1.heap.size) (n := (p1 outs).length) (by rw [List.map_map]; exact (unhide hR').own1)
        · exact StrS.of_own (base := w1.heap.size) (n := (p2 outs).length) (by rw [List.map_map]; exact (unhide hR').own2)
        · exact (unhide hb').trans ((unhide hR').bel.mono (unhide hb').size)
end Go.Proofs.Qxb6609067aFmt
