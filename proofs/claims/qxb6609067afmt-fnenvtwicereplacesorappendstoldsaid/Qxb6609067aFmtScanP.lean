import Derived.Test.Qxb6609067aFmtWords
namespace Go.Proofs.Qxb6609067aFmt
open Go.RowKit

/-- So many bytes still belong to the unit, in the state st at depth d. -/
def remU (st d : Nat) (l : List UInt8) : Option Nat :=
  if st = 0 then some 0 else if st = 1 then some 1 else if st = 2 then Pl.sq l else if st = 3 then Pl.dq false l else if st = 4 then Pl.dq true l else if st = 5 then Pl.br false d l else Pl.br true d l

/-- What the scan finds from here on. -/
def contW (st d k : Nat) (start eq : Int) (l : List UInt8) (len : Nat) : WW :=
  match remU st d l with
  | some n => Pl.W n k start eq l
  | none => ([(start, (len : Int), eq)], false)

theorem contW_zero (d k : Nat) (start eq : Int) (l : List UInt8) (len : Nat) : contW 0 d k start eq l len = Pl.W 0 k start eq l := by
  simp [contW, remU]

theorem contW_map1 (st d st' d' k : Nat) (start eq : Int) (c : UInt8) (r : List UInt8) (len : Nat) (h : remU st d (c :: r) = (remU st' d' r).map (· + 1)) :
    contW st d k start eq (c :: r) len = contW st' d' (k + 1) start eq r len := by
  unfold contW
  rw [h]
  cases remU st' d' r with
  | none => rfl
  | some n => simp only [Option.map_some]; rw [Pl.W]

theorem contW_map2 (st d st' d' k : Nat) (start eq : Int) (c c2 : UInt8) (r : List UInt8) (len : Nat) (h : remU st d (c :: c2 :: r) = (remU st' d' r).map (· + 2)) :
    contW st d k start eq (c :: c2 :: r) len = contW st' d' (k + 2) start eq r len := by
  unfold contW
  rw [h]
  cases remU st' d' r with
  | none => rfl
  | some n => simp only [Option.map_some]; rw [Pl.W, Pl.W]

/-- From the head of a unit. -/
theorem contW_unit1 (st' d' k : Nat) (start eq : Int) (c : UInt8) (r : List UInt8) (len : Nat) (hb : ¬ (c = 32 ∨ c = 9)) (hl : len = k + 1 + r.length) (h : Pl.unitLen (c :: r) = (remU st' d' r).map (· + 1)) :
    Pl.W 0 k start eq (c :: r) = contW st' d' (k + 1) (if start < 0 then (k : Int) else start) (if c = 61 ∧ eq < 0 then (k : Int) else eq) r len := by
  unfold contW
  cases hr : remU st' d' r with
  | none =>
    rw [hr] at h
    rw [Pl.W_none _ _ _ _ _ hb h, hl]
  | some n =>
    rw [hr] at h
    rw [Pl.W_some _ _ _ _ _ (n + 1) hb h]
    simp

theorem contW_unit2 (st' d' k : Nat) (start eq : Int) (c c2 : UInt8) (r : List UInt8) (len : Nat) (hb : ¬ (c = 32 ∨ c = 9)) (hl : len = k + 2 + r.length) (h : Pl.unitLen (c :: c2 :: r) = (remU st' d' r).map (· + 2)) :
    Pl.W 0 k start eq (c :: c2 :: r) = contW st' d' (k + 2) (if start < 0 then (k : Int) else start) (if c = 61 ∧ eq < 0 then (k : Int) else eq) r len := by
  unfold contW
  cases hr : remU st' d' r with
  | none =>
    rw [hr] at h
    rw [Pl.W_none _ _ _ _ _ hb h, hl]
    simp
    omega
  | some n =>
    rw [hr] at h
    rw [Pl.W_some _ _ _ _ _ (n + 2) hb h]
    simp only [Nat.add_one_sub_one]
    rw [Pl.W]

section
variable (s : ByteArray) (k d : Nat) (start eq : Int)

theorem sc_len (h : k < s.size) : s.size = k + 1 + (s.data.toList.drop (k + 1)).length := by simp; omega

theorem sc0_eq (h : k < s.size) (hc : s[k] = 61) : contW 0 d k start eq (s.data.toList.drop k) s.size = contW 0 d (k + 1) (if start < 0 then (k : Int) else start) (if eq < 0 then (k : Int) else eq) (s.data.toList.drop (k + 1)) s.size := by
  have hl := sc_len s k h
  rw [contW_zero, drop_byte s k h, contW_unit1 0 d k start eq _ _ s.size (by rw [hc]; decide) hl (by rw [Pl.unitLen, hc]; simp [remU])]
  simp [hc]

theorem sc0_esc (h : k + 1 < s.size) (hc : s[k] = 92) : contW 0 d k start eq (s.data.toList.drop k) s.size = contW 1 d (k + 1) (if start < 0 then (k : Int) else start) eq (s.data.toList.drop (k + 1)) s.size := by
  have hl := sc_len s k (by omega)
  rw [contW_zero, drop_byte s k (by omega), contW_unit1 1 d k start eq _ _ s.size (by rw [hc]; decide) hl (by rw [Pl.unitLen, if_pos ⟨hc, by rw [drop_byte s (k + 1) h]; simp⟩]; simp [remU])]
  simp [hc]

theorem sc0_last (h : k < s.size) (h2 : ¬ k + 1 < s.size) (hc : s[k] = 92) : contW 0 d k start eq (s.data.toList.drop k) s.size = contW 0 d (k + 1) (if start < 0 then (k : Int) else start) eq (s.data.toList.drop (k + 1)) s.size := by
  have hl := sc_len s k (by omega)
  rw [contW_zero, drop_byte s k (by omega), contW_unit1 0 d k start eq _ _ s.size (by rw [hc]; decide) hl (by rw [Pl.unitLen, if_neg (fun e => e.2 (drop_end s _ (by omega))), hc]; simp [remU])]
  simp [hc]

theorem sc0_sq (h : k < s.size) (hc : s[k] = 39) : contW 0 d k start eq (s.data.toList.drop k) s.size = contW 2 d (k + 1) (if start < 0 then (k : Int) else start) eq (s.data.toList.drop (k + 1)) s.size := by
  have hl := sc_len s k (by omega)
  rw [contW_zero, drop_byte s k (by omega), contW_unit1 2 d k start eq _ _ s.size (by rw [hc]; decide) hl (by rw [Pl.unitLen, hc]; simp [remU])]
  simp [hc]

theorem sc0_dq (h : k < s.size) (hc : s[k] = 34) : contW 0 d k start eq (s.data.toList.drop k) s.size = contW 3 d (k + 1) (if start < 0 then (k : Int) else start) eq (s.data.toList.drop (k + 1)) s.size := by
  have hl := sc_len s k (by omega)
  rw [contW_zero, drop_byte s k (by omega), contW_unit1 3 d k start eq _ _ s.size (by rw [hc]; decide) hl (by rw [Pl.unitLen, hc]; simp [remU])]
  simp [hc]

theorem sc0_br (h : k + 1 < s.size) (hc : s[k] = 36) (hc2 : s[k + 1] = 123) : contW 0 d k start eq (s.data.toList.drop k) s.size = contW 5 1 (k + 2) (if start < 0 then (k : Int) else start) eq (s.data.toList.drop (k + 2)) s.size := by
  have hl := sc_len s (k + 1) (by omega)
  rw [contW_zero, drop_byte s k (by omega), drop_byte s (k + 1) (by omega), contW_unit2 5 1 k start eq _ _ _ s.size (by rw [hc]; decide) (by omega) (by rw [Pl.unitLen, hc, hc2]; simp [remU])]
  simp [hc]

theorem sc0_else (h : k < s.size) (hb : ¬ (s[k] = 32 ∨ s[k] = 9)) (h1 : s[k] ≠ 61) (h2 : s[k] ≠ 92) (h3 : s[k] ≠ 39) (h4 : s[k] ≠ 34) (h5 : ¬ (s[k] = 36 ∧ (s.data.toList.drop (k + 1)).head? = some 123)) :
    contW 0 d k start eq (s.data.toList.drop k) s.size = contW 0 d (k + 1) (if start < 0 then (k : Int) else start) eq (s.data.toList.drop (k + 1)) s.size := by
  have hl := sc_len s k (by omega)
  rw [contW_zero, drop_byte s k (by omega), contW_unit1 0 d k start eq _ _ s.size hb hl (by rw [Pl.unitLen, if_neg (fun e => h2 e.1), if_neg h3, if_neg h4, if_neg h5]; simp [remU])]
  simp [h1]

theorem sc1 (h : k < s.size) : contW 1 d k start eq (s.data.toList.drop k) s.size = contW 0 d (k + 1) start eq (s.data.toList.drop (k + 1)) s.size := by
  rw [drop_byte s k h, contW_map1 1 d 0 d]
  simp [remU]

theorem sc2_close (h : k < s.size) (hc : s[k] = 39) : contW 2 d k start eq (s.data.toList.drop k) s.size = contW 0 d (k + 1) start eq (s.data.toList.drop (k + 1)) s.size := by
  rw [drop_byte s k h, contW_map1 2 d 0 d]
  simp [remU, Pl.sq, hc]

theorem sc2_else (h : k < s.size) (hc : s[k] ≠ 39) : contW 2 d k start eq (s.data.toList.drop k) s.size = contW 2 d (k + 1) start eq (s.data.toList.drop (k + 1)) s.size := by
  rw [drop_byte s k h, contW_map1 2 d 2 d]
  simp [remU, Pl.sq, hc]

theorem sc3_esc (h : k < s.size) (hc : s[k] = 92) : contW 3 d k start eq (s.data.toList.drop k) s.size = contW 4 d (k + 1) start eq (s.data.toList.drop (k + 1)) s.size := by
  rw [drop_byte s k h, contW_map1 3 d 4 d]
  simp [remU, Pl.dq, hc]

theorem sc3_close (h : k < s.size) (hc : s[k] = 34) : contW 3 d k start eq (s.data.toList.drop k) s.size = contW 0 d (k + 1) start eq (s.data.toList.drop (k + 1)) s.size := by
  rw [drop_byte s k h, contW_map1 3 d 0 d]
  simp [remU, Pl.dq, hc]

theorem sc3_else (h : k < s.size) (h1 : s[k] ≠ 92) (h2 : s[k] ≠ 34) : contW 3 d k start eq (s.data.toList.drop k) s.size = contW 3 d (k + 1) start eq (s.data.toList.drop (k + 1)) s.size := by
  rw [drop_byte s k h, contW_map1 3 d 3 d]
  simp [remU, Pl.dq, h1, h2]

theorem sc4 (h : k < s.size) : contW 4 d k start eq (s.data.toList.drop k) s.size = contW 3 d (k + 1) start eq (s.data.toList.drop (k + 1)) s.size := by
  rw [drop_byte s k h, contW_map1 4 d 3 d]
  simp [remU, Pl.dq]

theorem sc5_esc (h : k < s.size) (hc : s[k] = 92) : contW 5 d k start eq (s.data.toList.drop k) s.size = contW 6 d (k + 1) start eq (s.data.toList.drop (k + 1)) s.size := by
  rw [drop_byte s k h, contW_map1 5 d 6 d]
  simp [remU, Pl.br_back _ _ _ hc]

theorem sc5_open (h : k + 1 < s.size) (hc : s[k] = 36) (hc2 : s[k + 1] = 123) : contW 5 d k start eq (s.data.toList.drop k) s.size = contW 5 (d + 1) (k + 2) start eq (s.data.toList.drop (k + 2)) s.size := by
  rw [drop_byte s k (by omega), drop_byte s (k + 1) h, contW_map2 5 d 5 (d + 1)]
  simp [remU, Pl.br_open _ _ _ _ hc hc2]

theorem sc5_close (h : k < s.size) (hc : s[k] = 125) : contW 5 1 k start eq (s.data.toList.drop k) s.size = contW 0 0 (k + 1) start eq (s.data.toList.drop (k + 1)) s.size := by
  rw [drop_byte s k h, contW_map1 5 1 0 0]
  simp [remU, Pl.br_close _ _ _ hc]

theorem sc5_less (h : k < s.size) (hc : s[k] = 125) (hd : d ≠ 1) : contW 5 d k start eq (s.data.toList.drop k) s.size = contW 5 (d - 1) (k + 1) start eq (s.data.toList.drop (k + 1)) s.size := by
  rw [drop_byte s k h, contW_map1 5 d 5 (d - 1)]
  simp [remU, Pl.br_close _ _ _ hc, hd]

theorem sc5_else (h : k < s.size) (h1 : s[k] ≠ 92) (h2 : ¬ (s[k] = 36 ∧ (s.data.toList.drop (k + 1)).head? = some 123)) (h3 : s[k] ≠ 125) : contW 5 d k start eq (s.data.toList.drop k) s.size = contW 5 d (k + 1) start eq (s.data.toList.drop (k + 1)) s.size := by
  rw [drop_byte s k h, contW_map1 5 d 5 d]
  simp [remU, Pl.br_else _ _ _ h1 h2 h3]

theorem sc6 (h : k < s.size) : contW 6 d k start eq (s.data.toList.drop k) s.size = contW 5 d (k + 1) start eq (s.data.toList.drop (k + 1)) s.size := by
  rw [drop_byte s k h, contW_map1 6 d 5 d]
  simp [remU, Pl.br_esc]

theorem sc_end0 (h : s.size = k) : contW 0 d k start eq (s.data.toList.drop k) s.size = (if 0 ≤ start then [(start, (k : Int), eq)] else [], true) := by
  rw [contW_zero, drop_end s k (by omega), Pl.W]

theorem sc_end (st : Nat) (h : s.size = k) (h0 : st ≠ 0) (h1 : st ≠ 1) : contW st d k start eq (s.data.toList.drop k) s.size = ([(start, (k : Int), eq)], false) := by
  rw [drop_end s k (by omega), h]
  unfold contW
  have : remU st d [] = none := by
    unfold remU
    rw [if_neg h0, if_neg h1]
    repeat' split
    all_goals first | rfl | exact Pl.br_nil _ _
  rw [this]
end

/-- v is a slice of ints; in the world w its elements are zs. -/
def IntS (w : World) (v : Value) (zs : List Int) : Prop :=
  ∃ a c, v = .slice a zs.length c ∧ zs.length ≤ c ∧ (a = none → zs = [] ∧ c = 0) ∧ ∀ i z, zs[i]? = some z → ∃ b o, a = some ⟨b, o, none⟩ ∧ w.cell? ⟨b, o + i, none⟩ = some (.int .i64 z)

theorem IntS.of_own {w : World} {base n : Nat} {v : Value} {zs : List Int} (h : w.ownsRow base 3 1 v n (zs.map (Value.int .i64))) : IntS w v zs := by
  have hl : zs.length = n := by have := h.1; simpa using this
  rcases h.2 with ⟨rfl, hn⟩ | ⟨g, cap, cur, rfl, _, _, hnc, _⟩
  · have : zs = [] := List.eq_nil_of_length_eq_zero (by omega)
    subst this
    exact ⟨none, 0, rfl, by simp, by simp, by simp⟩
  · refine ⟨_, cap, by rw [hl], by omega, by simp, fun i z hz => ⟨g, 0, rfl, ?_⟩⟩
    have hi : i < n := by have := (List.getElem?_eq_some_iff.1 hz).1; omega
    rw [Nat.zero_add, h.cellAt i (by omega)]; simp [hz]

theorem IntS.below {w w' : World} {v : Value} {zs : List Int} (h : IntS w v zs) (hk : Below w.heap.size w w') : IntS w' v zs := by
  obtain ⟨a, c, rfl, hc, hn, hcell⟩ := h
  refine ⟨a, c, rfl, hc, hn, fun i s hs => ?_⟩
  obtain ⟨b, o, rfl, h1⟩ := hcell i s hs
  exact ⟨b, o, rfl, by rw [hk.cell (World.block_lt_of_cell? w _ h1)]; exact h1⟩

/-- Three rows of the call's own, apart from each other. -/
structure Rows3 (B e : Nat) (w : World) (v1 v2 v3 : Value) (l1 l2 l3 : List Value) (wr : World) : Prop where
  own1 : wr.ownsRow B e 1 v1 l1.length l1
  own2 : wr.ownsRow B e 1 v2 l2.length l2
  own3 : wr.ownsRow B e 1 v3 l3.length l3
  ne12 : ∀ g, v1.ownBlock = some g → v2.ownBlock ≠ some g
  ne23 : ∀ g, v2.ownBlock = some g → v3.ownBlock ≠ some g
  ne31 : ∀ g, v3.ownBlock = some g → v1.ownBlock ≠ some g
  bel : Below B w wr
  base : B ≤ wr.heap.size

theorem Rows3.rot {B e : Nat} {w wr : World} {v1 v2 v3 : Value} {l1 l2 l3 : List Value} (h : Rows3 B e w v1 v2 v3 l1 l2 l3 wr) : Rows3 B e w v2 v3 v1 l2 l3 l1 wr :=
  ⟨h.own2, h.own3, h.own1, h.ne23, h.ne31, h.ne12, h.bel, h.base⟩

theorem Rows3.app {B e : Nat} {w wr w1 : World} {v1 v2 v3 v' : Value} {l1 l2 l3 : List Value} (h : Rows3 B e w v1 v2 v3 l1 l2 l3 wr) (o : Obj) (u : Value)
    (h1 : w1.ownsRow B e 1 v' (l1.length + 1) (l1 ++ [u])) (h2 : (wr.alloc o).grownBy w1 v1.ownBlock) (h3 : v'.ownBlock = v1.ownBlock ∨ v'.ownBlock = some (wr.heap.size + 1)) : Rows3 B e w v' v2 v3 (l1 ++ [u]) l2 l3 w1 := by
  have hsz : (wr.alloc o).heap.size = wr.heap.size + 1 := by simp
  have k2 : ∀ {v : Value} {l : List Value}, wr.ownsRow B e 1 v l.length l → (∀ g, v1.ownBlock = some g → v.ownBlock ≠ some g) → w1.ownsRow B e 1 v l.length l := by
    intro v l ho hne
    refine (ho.alloc o).kept h2 ?_
    cases hv : v.ownBlock with
    | none => exact .inl rfl
    | some g => right; intro e; exact hne g e.symm hv
  refine ⟨by simpa using h1, k2 h.own2 h.ne12, k2 h.own3 (fun g hg e => h.ne31 g e hg), fun g hg e => ?_, h.ne23, fun g hg e => ?_, ?_, ?_⟩
  · rcases h3 with h3 | h3
    · exact h.ne12 g (h3 ▸ hg) e
    · have := (h.own2.lt g e).2
      rw [h3] at hg
      simp at hg
      omega
  · rcases h3 with h3 | h3
    · exact h.ne31 g hg (h3 ▸ e)
    · have := (h.own3.lt g hg).2
      rw [h3] at e
      simp at e
      omega
  · exact (h.bel.alloc h.base o).grown h2 (by have := h.base; omega) (fun k hk => (h.own1.lt k hk).1)
  · have := h2.size; have := h.base; omega

end Go.Proofs.Qxb6609067aFmt
