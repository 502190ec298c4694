import Derived.Test.Qxb6612546aFmtSortP
import Derived.Test.Qxb6612546aFmtSrc
import Derived.Laws.CopyOwn
import Derived.Laws.OwnMore
import Derived.Deep.CutRange
import Derived.Deep.Cut
import Derived.BigQuiet
import Derived.Deep.QuietTactic
namespace Go.Proofs.Qxb6612546aFmt
open Go.RowKit

theorem size_alloc' (w : World) (o : Obj) : (w.alloc o).heap.size = w.heap.size + 1 := by
  show (w.heap.push o).size = _
  exact Array.size_push _

theorem strs_own {w : World} {base n : Nat} {v : Value} {xs : List ByteArray} (h : w.ownsRow base 9 1 v n (xs.map Value.string)) : StrS w v xs := by
  have h1 := h.1
  rcases h.2 with ⟨rfl, h0⟩ | ⟨g, cap, cur, rfl, _⟩
  · have : xs = [] := by
      have : xs.length = 0 := by simpa [h0] using h1
      exact List.eq_nil_of_length_eq_zero this
    subst this
    exact StrS.nil w
  · exact StrS.own h

/-- A list of strings appended, nil or not. -/
theorem append_strs (w : World) (base : Nat) (ty : TypeId) (v : Value) (n : Nat) (xs ys : List ByteArray) (hown : w.ownsRow base 9 1 v n (xs.map Value.string)) (a : Option Addr) (m c : Nat) (hs : StrS w (.slice a m c) ys)
    (h63 : n + m ≤ 104857600) (hbase : base ≤ w.heap.size) :
    ∃ v' w', (Builtin.append_ #[22, 22] ty #[v, .slice a m c]).run Tryf.prog w = .ok v' w' ∧ w'.ownsRow base 9 1 v' (n + m) ((xs ++ ys).map Value.string) ∧ w.grownBy w' v.ownBlock ∧ (v'.ownBlock = v.ownBlock ∨ v'.ownBlock = some w.heap.size) := by
  obtain ⟨i0, hi, hz0, hz1, hz2⟩ := info_parts Tryf.info9
  obtain ⟨hl, hc, hn, hcell⟩ := hs.some_cases
  cases a with
  | none =>
    obtain ⟨rfl, rfl⟩ := hn rfl
    simp at hl
    subst hl
    exact ⟨v, w, run_append_owned_none w base 22 ty 9 i0 1 Tryf.underlying22 hi v n _ hown, by simpa using hown, World.grownBy.refl _ _, .inl rfl⟩
  | some ad =>
    obtain ⟨v', w', h1, h2, h3, _, h5⟩ := append_where (P := Tryf.prog) w base 22 ty 9 i0 (.string ⟨#[]⟩) 1 16 Tryf.underlying22 hi hz0 hz1 hz2 rfl (by decide) v n _ hown ad m c (ys.map Value.string) (by simp [hl])
      (fun j u hu => by
        rw [List.getElem?_map] at hu
        obtain ⟨s, hs, rfl⟩ := Option.map_eq_some_iff.1 hu
        obtain ⟨b, o, he, h⟩ := hcell j s hs
        simp at he
        subst he
        cases j with
        | zero => exact h
        | succ j => exact h)
      (by simp [Value.oneCell']) (by unfold maxLen; omega) (by omega) hbase
    exact ⟨v', w', h1, by simpa using h2, h3, h5⟩

theorem wpList_append_strs (w : World) {ops : Array Oper} {rest : List Oper} {o : Oper} {a : Act} {Q : Exit → Act → World → Prop} (hgd : o.guard = none) (s x : Operand)
    (ho : o.op = .call { callee := .builtin .append, args := #[s, x], argTypes := #[22, 22] })
    (base : Nat) (v : Value) (n : Nat) (xs ys : List ByteArray) (hs : a.eval s = v) (hown : w.ownsRow base 9 1 v n (xs.map Value.string))
    (ad : Option Addr) (m c : Nat) (hx : a.eval x = .slice ad m c) (hsrc : StrS w (.slice ad m c) ys) (h63 : n + m ≤ 104857600) (hbase : base ≤ w.heap.size)
    (h : ∀ v' w', w'.ownsRow base 9 1 v' (n + m) ((xs ++ ys).map Value.string) → w.grownBy w' v.ownBlock → (v'.ownBlock = v.ownBlock ∨ v'.ownBlock = some w.heap.size) → wpList Tryf.prog ops Q rest (a.put o.dst v') w') : wpList Tryf.prog ops Q (o :: rest) a w := by
  refine wpList_plain hgd fun K hK => ?_
  obtain ⟨v', w', hr, h2, h3, h5⟩ := append_strs w base o.type v n xs ys hown ad m c hsrc h63 hbase
  unfold Oper.wp
  simp [execOp, ho, resolve, invoke, builtin, hs, hx, hr, Result.andThen]
  exact hK _ _ (h v' w' h2 h3 h5)

/-- A list of strings copied whole into a row of its length. -/
theorem copy_strs (w : World) (ty : TypeId) (base g n : Nat) (zs : List Value) (hown : w.ownsRow base 9 1 (.slice (some ⟨g, 0, none⟩) n n) n zs) (sp : Option Addr) (c : Nat) (xs : List ByteArray) (hsrc : StrS w (.slice sp n c) xs)
    (B : Nat) (w0 : World) (hb : Below B w0 w) (hBg : B ≤ g) :
    ∃ w', (Builtin.copy_ #[22, 22] ty #[.slice (some ⟨g, 0, none⟩) n n, .slice sp n c]).run Tryf.prog w = .ok (.int .i64 n) w' ∧ w'.ownsRow base 9 1 (.slice (some ⟨g, 0, none⟩) n n) n (xs.map Value.string) ∧ Below B w0 w' := by
  obtain ⟨i0, hi, hz0, hz1, hz2⟩ := info_parts Tryf.info9
  have hsz : (Tryf.prog.info? 9).map (·.size) = some 1 := by rw [hi]; simp [hz1]
  obtain ⟨hl, hc, hn, hcell⟩ := hsrc.some_cases
  cases xs with
  | nil =>
    simp at hl
    subst hl
    refine ⟨w, run_copy_none (P := Tryf.prog) w 22 22 ty 9 _ sp 0 0 0 c Tryf.underlying22 hsz (by simp), ?_, hb⟩
    have h0 : zs = [] := List.eq_nil_of_length_eq_zero (by simpa using hown.1)
    rw [h0] at hown
    exact hown
  | cons x r =>
    obtain ⟨b, o, rfl, _⟩ := hcell 0 x rfl
    rcases hown.2 with ⟨h', _⟩ | ⟨g', cap', cur, h', hbg, hg, hnc, hcm, hcs, htake⟩
    · simp at h'
    · simp only [Value.slice.injEq, Option.some.injEq, Addr.mk.injEq, and_true, true_and] at h'
      obtain ⟨rfl, rfl⟩ := h'
      have hcl : cur.toList.length = n := by simp at hcs ⊢; omega
      have e1 : ((x :: r).map Value.string).length = n := by rw [List.length_map]; exact hl
      have hrun := run_copy_row (P := Tryf.prog) w 22 22 ty 9 g 0 n n ⟨b, o, none⟩ n c cur 9 ((x :: r).map Value.string) Tryf.underlying22 hsz hg (by rw [e1]; simp) (fun j u hu => by
        rw [List.getElem?_map] at hu
        obtain ⟨s, hs, rfl⟩ := Option.map_eq_some_iff.1 hu
        obtain ⟨b', o', he, h⟩ := hcell j s hs
        simp at he
        obtain ⟨rfl, rfl⟩ := he
        cases j with
        | zero => exact h
        | succ j => exact h) (by rw [e1]; simp at hcl ⊢; omega) (by simp [Value.oneCell'])
      rw [e1] at hrun
      have hd : cur.toList.drop n = [] := List.drop_of_length_le (by omega)
      rw [Nat.zero_add, hd] at hrun
      refine ⟨_, hrun, ⟨by rw [e1]; simp, .inr ⟨g, n, _, rfl, hbg, setRow_heap w g _ _ 9 _ hg, Nat.le_refl _, hcm, ?_, ?_⟩⟩, below_setRow hb hBg _⟩
      · simp at hl ⊢; omega
      · simp only [List.take_zero, List.nil_append, List.append_nil, Nat.mul_one]
        exact List.take_of_length_le (by rw [e1]; exact Nat.le_refl _)

theorem StrS.drop {w : World} {b o n c : Nat} {xs : List ByteArray} (h : StrS w (.slice (some ⟨b, o, none⟩) n c) xs) (k : Nat) (hk : k ≤ n) : StrS w (.slice (some ⟨b, o + k, none⟩) (n - k) (c - k)) (xs.drop k) := by
  obtain ⟨hl, hc, hn, hcell⟩ := h.some_cases
  refine ⟨_, c - k, by simp [hl], by simp; omega, by simp, fun i s hs => ⟨b, o + k, rfl, ?_⟩⟩
  rw [List.getElem?_drop] at hs
  obtain ⟨b', o', he, h1⟩ := hcell _ s hs
  simp at he
  obtain ⟨rfl, rfl⟩ := he
  rw [← h1]; congr 2; omega

theorem StrS.drop_if {w : World} {b o n c : Nat} {xs : List ByteArray} (h : StrS w (.slice (some ⟨b, o, none⟩) n c) xs) (k : Nat) (hk : k ≤ n) : StrS w (.slice (if c = k then some ⟨b, o, none⟩ else some ⟨b, o + k, none⟩) (n - k) (c - k)) (xs.drop k) := by
  split
  · obtain ⟨hl, hc, _, _⟩ := h.some_cases
    have : xs.drop k = [] := List.drop_of_length_le (by omega)
    rw [this, show n - k = 0 by omega]
    exact ⟨_, _, rfl, by simp, by simp, by simp⟩
  · exact h.drop k hk

theorem StrS.take {w : World} {a : Option Addr} {n c : Nat} {xs : List ByteArray} (h : StrS w (.slice a n c) xs) (k : Nat) (hk : k ≤ n) : StrS w (.slice a k c) (xs.take k) := by
  obtain ⟨hl, hc, hn, hcell⟩ := h.some_cases
  refine ⟨a, c, by simp; omega, by simp; omega, fun e => ?_, fun i s hs => ?_⟩
  · obtain ⟨rfl, rfl⟩ := hn e; simp
  · rw [List.getElem?_take] at hs
    split at hs
    · exact hcell i s hs
    · simp at hs

theorem StrS.empty (w : World) (a : Addr) (c : Nat) : StrS w (.slice (some a) 0 c) [] := ⟨some a, c, rfl, by simp, by simp, by simp⟩

def SortPost (xs : List ByteArray) (w : World) (e : Ending) (w' : World) : Prop :=
  ∃ v ys, e = .returned v ∧ StrS w' v ys ∧ ys.Perm xs ∧ Srt ys ∧ Below w.heap.size w w'

set_option maxRecDepth 100000 in
set_option maxHeartbeats 1000000 in
theorem sort_small (a : Option Addr) (n c : Nat) (xs : List ByteArray) (w : World) (hs : StrS w (.slice a n c) xs) (hn : n ≤ 1) : Calls Tryf.prog 35 #[.slice a n c] w (SortPost xs w) := by
  obtain ⟨i0, hi, hz0, hz1, hz2⟩ := info_parts Tryf.info9
  have hl := hs.some_cases.1
  have hs' := hide hs
  have hl' := hide hl
  have hb2 : i0.bytes * n ≤ 281474976710656 := by rw [hz2]; omega
  have hmx : n ≤ maxLen := by unfold maxLen; omega
  clear hs hl
  go_enter Tryf.func35, Tryf.ntmps35
  go_wp2_with (at_make; refine wpList_make_full _ rfl _ _ 22 rfl w.heap.size 9 i0 (.string ⟨#[]⟩) 1 Tryf.underlying22 hi hz0 hz1 _ _ _ _ n rfl rfl rfl rfl hb2 hmx (Nat.le_refl _) ?_)
  intro w1 hown hgrow
  have hb1 : Below w.heap.size w w1 := (Below.refl _ w).grown hgrow (Nat.le_refl _) (by simp)
  have hs1 := hide ((unhide hs').below hb1)
  have hown' := hide hown
  have hb1' := hide hb1
  clear hown hgrow hb1
  obtain ⟨w2, hrun, hown2, hb2⟩ := copy_strs w1 3 w.heap.size w.heap.size n _ (unhide hown') a c xs (unhide hs1) w.heap.size w (unhide hb1') (Nat.le_refl _)
  have hown2 := hide hown2
  have hb2' := hide hb2
  clear hb2
  go_wp2
  go_ret
  refine ⟨_, xs, rfl, strs_own (unhide hown2), List.Perm.refl _, ?_, unhide hb2'⟩
  have hx : xs.length ≤ 1 := by rw [unhide hl']; exact hn
  cases xs with
  | nil => exact List.Pairwise.nil
  | cons x r => cases r with
    | nil => exact List.pairwise_singleton _ _
    | cons y r => simp at hx

theorem of_drew {w w' : World} {n : Nat} {o : Obj} {r : Option Nat} (h : ((w.drewN n).alloc o).grownBy w' r) : (w.alloc o).grownBy w' r := ⟨h.os, h.tape, h.output, h.size, h.block⟩

theorem merge_both {a b : List ByteArray} {i j : Nat} {x y : ByteArray} (hx : a[i]? = some x) (hy : b[j]? = some y) :
    (a.drop i).merge (b.drop j) sLe = if sLt y x = true then y :: (a.drop i).merge (b.drop (j + 1)) sLe else x :: (a.drop (i + 1)).merge (b.drop j) sLe := by
  obtain ⟨h1, rfl⟩ := List.getElem?_eq_some_iff.1 hx
  obtain ⟨h2, rfl⟩ := List.getElem?_eq_some_iff.1 hy
  rw [List.drop_eq_getElem_cons h1, List.drop_eq_getElem_cons h2, List.cons_merge_cons]
  cases h : sLt b[j] a[i] <;> simp [sLe, h]

theorem merge_left {a b : List ByteArray} {i j : Nat} (h : a.length ≤ i ∨ b.length ≤ j) : (a.drop i).merge (b.drop j) sLe = a.drop i ++ b.drop j := by
  rcases h with h | h
  · rw [List.drop_of_length_le h]; simp
  · rw [List.drop_of_length_le h]; simp

/-- The merge so far. -/
def Mrg (w0 : World) (a b M : List ByteArray) (v : Value) (i j : Nat) (wr : World) : Prop :=
  ∃ l : List ByteArray, l.length = i + j ∧ wr.ownsRow w0.heap.size 9 1 v (i + j) (l.map Value.string) ∧ Below w0.heap.size w0 wr ∧ l ++ (a.drop i).merge (b.drop j) sLe = M

theorem Mrg.step {w0 : World} {a b M : List ByteArray} {v v' : Value} {i j i' j' : Nat} {wr w' : World} {x : ByteArray} {l : List ByteArray} (hl : l.length = i + j) (hB : Below w0.heap.size w0 wr) (he : l ++ (a.drop i).merge (b.drop j) sLe = M) (hm : (a.drop i).merge (b.drop j) sLe = x :: (a.drop i').merge (b.drop j') sLe) (hij : i' + j' = i + j + 1)
    (hown0 : wr.ownsRow w0.heap.size 9 1 v (i + j) (l.map Value.string)) (o : Obj) (hown : w'.ownsRow w0.heap.size 9 1 v' (i + j + 1) (l.map Value.string ++ [Value.string x])) (hg : (wr.alloc o).grownBy w' v.ownBlock) : Mrg w0 a b M v' i' j' w' := by
  refine ⟨l ++ [x], by simp; omega, ?_, ?_, ?_⟩
  · rw [hij]; simpa using hown
  · refine (hB.alloc hB.size o).grown hg (by rw [size_alloc']; have := hB.size; omega) (fun k hk => (hown0.lt k hk).1)
  · rw [← he, hm]; simp

set_option maxRecDepth 100000 in
set_option maxHeartbeats 4000000 in
theorem sort_big (b o n c : Nat) (xs : List ByteArray) (w : World) (hs : StrS w (.slice (some ⟨b, o, none⟩) n c) xs) (hn : 2 ≤ n) (hn2 : n ≤ 2097152)
    (ih : ∀ (k o' c' : Nat) (ys : List ByteArray) (w' : World), k < n → StrS w' (.slice (some ⟨b, o', none⟩) k c') ys → Calls Tryf.prog 35 #[.slice (some ⟨b, o', none⟩) k c'] w' (SortPost ys w')) : Calls Tryf.prog 35 #[.slice (some ⟨b, o, none⟩) n c] w (SortPost xs w) := by
  obtain ⟨i0, hi, hz0, hz1, hz2⟩ := info_parts Tryf.info9
  obtain ⟨hl, hnc, _, _⟩ := hs.some_cases
  obtain ⟨md, hh⟩ : ∃ md, md = n / 2 := ⟨_, rfl⟩
  have hh1 : md < n := by omega
  have hh2 : 0 < md := by omega
  have hdiv : Int.tdiv (n : Int) 2 = (md : Int) := by rw [Int.tdiv_eq_ediv_of_nonneg (by omega)]; omega
  have HA := hide (ih md o c (xs.take md) w hh1 (hs.take md (by omega)))
  have hs' := hide hs
  have hl' := hide hl
  have ih' := hide ih
  clear hs hl ih hh
  have hle1 : ¬ (n : Int) ≤ 1 := by omega
  go_enter Tryf.func35, Tryf.ntmps35
  go_wp2_with fail
  refine (unhide HA).mono ?_
  rintro en w1 ⟨va, ya, rfl, hsa, hpa, hra, hba⟩
  have hla : ya.length = md := by have := hpa.length_eq; rw [this, List.length_take, unhide hl']; omega
  obtain ⟨aa, ca, rfl⟩ : ∃ aa ca, va = .slice aa md ca := by obtain ⟨aa, ca, e, _⟩ := hsa; exact ⟨aa, ca, by rw [e, hla]⟩
  have HB := hide (unhide ih' (n - md) (o + md) (c - md) (xs.drop md) w1 (by omega) (((unhide hs').drop md (by omega)).below hba))
  have hsa' := hide hsa
  have hpa' := hide hpa
  have hra' := hide hra
  have hba' := hide hba
  have hla' := hide hla
  clear HA hsa hpa hra hba hla ih'
  go_wp2_with fail
  refine (unhide HB).mono ?_
  rintro en w2 ⟨vb, yb, rfl, hsb, hpb, hrb, hbb⟩
  obtain ⟨nb, hnb⟩ : ∃ q, q = n - md := ⟨_, rfl⟩
  have hlb : yb.length = nb := by have := hpb.length_eq; rw [this, List.length_drop, unhide hl', hnb]
  obtain ⟨ab, cb, rfl⟩ : ∃ ab cb, vb = .slice ab nb cb := by obtain ⟨ab, cb, e, _⟩ := hsb; exact ⟨ab, cb, by rw [e, hlb]⟩
  have hsa2 := hide ((unhide hsa').below hbb)
  have hnn : md + nb = n := by omega
  obtain ⟨b1, o1, rfl⟩ : ∃ b1 o1, aa = some ⟨b1, o1, none⟩ := by
    obtain ⟨b1, o1, e, _⟩ := (unhide hsa').some_cases.2.2.2 0 (ya[0]'(by have := unhide hla'; omega)) (by simp)
    exact ⟨b1, o1, e⟩
  obtain ⟨b2, o2, rfl⟩ : ∃ b2 o2, ab = some ⟨b2, o2, none⟩ := by
    obtain ⟨b2, o2, e, _⟩ := hsb.some_cases.2.2.2 0 (yb[0]'(by omega)) (by simp)
    exact ⟨b2, o2, e⟩
  have hca := (unhide hsa').some_cases.2.1
  have hcb := hsb.some_cases.2.1
  have hsb' := hide hsb
  have hbw : Below w.heap.size w w2 := (unhide hba').trans (hbb.mono (unhide hba').size)
  have hbw' := hide hbw
  have hlb' := hide hlb
  have hfin : Hid ((ya.merge yb sLe).Perm xs ∧ Srt (ya.merge yb sLe)) := by
    refine ⟨?_, srt_merge _ _ (unhide hra') hrb⟩
    refine (List.merge_perm_append (le := sLe)).trans ?_
    refine (List.Perm.append (unhide hpa') hpb).trans ?_
    rw [List.take_append_drop]
  have hb2 : i0.bytes * n ≤ 281474976710656 := by rw [hz2]; omega
  have hmx : n ≤ maxLen := by unfold maxLen; omega
  clear HB hsb hpb hrb hbb hsa' hpa' hra' hba' hbw hlb hs' hnb
  go_wp2_with (at_make; refine wpList_make_own _ rfl _ _ 22 rfl w2.heap.size 9 i0 (.string ⟨#[]⟩) 1 Tryf.underlying22 hi hz0 hz1 _ _ _ n rfl rfl rfl hb2 hmx (Nat.le_refl _) ?_)
  intro w3 hown hgrow
  have hst : Hid (Mrg w2 ya yb (ya.merge yb sLe) (.slice (some ⟨w2.heap.size, 0, none⟩) 0 n) 0 0 w3) := ⟨[], rfl, by simpa using hown, (Below.refl _ w2).grown hgrow (Nat.le_refl _) (by simp), by simp⟩
  clear hown hgrow hb2 hmx
  go_wp2
  go_loopw [7, 8, 9] (fun v iv jv wr => ∃ i j : Nat, i ≤ md ∧ j ≤ nb ∧ iv = .int .i64 i ∧ jv = .int .i64 j ∧ Mrg w2 ya yb (ya.merge yb sLe) v i j wr) (fun _ iv jv _ => n - ((intOf iv).toNat + (intOf jv).toNat))
  case atStart => exact ⟨0, 0, Nat.zero_le _, Nat.zero_le _, rfl, rfl, unhide hst⟩
  case round =>
    obtain ⟨i, j, hi', hj', rfl, rfl, l, hll, hown, hB, hM⟩ := hrel
    have hsa3 := (unhide hsa2).below hB
    have hsb3 := (unhide hsb').below hB
    have hown' := hide hown
    have hB' := hide hB
    have hM' := hide hM
    have hll' := hide hll
    have hbs := hB.size
    clear hst hown hB hM hll
    by_cases hc : i < md ∧ j < nb
    · obtain ⟨hc1, hc2⟩ := hc
      obtain ⟨x, hx⟩ : ∃ x, ya[i]? = some x := ⟨ya[i]'(by have := unhide hla'; omega), by simp⟩
      obtain ⟨y, hy⟩ : ∃ y, yb[j]? = some y := ⟨yb[j]'(by have := unhide hlb'; omega), by simp⟩
      obtain ⟨_, _, e1, cx⟩ := hsa3.some_cases.2.2.2 i x hx
      obtain ⟨_, _, e2, cy⟩ := hsb3.some_cases.2.2.2 j y hy
      cases e1
      cases e2
      have hmg := hide (merge_both hx hy)
      have hd1 : (i : Int) < md := by omega
      have hd2 : (j : Int) < nb := by omega
      have hx1 : i + j + 1 ≤ maxLen := by unfold maxLen; omega
      clear hsa3 hsb3 hx hy
      by_cases hlt : sLt y x = true
      · have hlt' : Op.bytesLess y.toList x.toList = true := hlt
        have hm2 : Hid ((ya.drop i).merge (yb.drop j) sLe = y :: (ya.drop i).merge (yb.drop (j + 1)) sLe) := by rw [Hid, unhide hmg, if_pos hlt]
        clear hmg hlt
        go_wp2
        go_quiet (fail)
        go_wp2_with (at_builtin; refine wpList_append_where _ rfl _ _ 22 rfl w2.heap.size 9 i0 (.string ⟨#[]⟩) 1 16 Tryf.underlying22 hi hz0 hz1 hz2 rfl (by decide) _ (i + j) _ rfl ((show World.ownsRow (wr.drewN nq) _ _ _ _ _ _ from unhide hown').alloc _) ⟨(wr.drewN nq).heap.size, 0, none⟩ 1 1 [.string y] rfl rfl (cell_one_new _ _ _) (by simp [Value.oneCell']) hx1 (by omega) (by simp; omega) ?_)
        intro v4 w4 hown4 hgrow4 _ _
        have hmr := hide (Mrg.step (unhide hll') (unhide hB') (unhide hM') (unhide hm2) (by omega) (unhide hown') _ hown4 (of_drew hgrow4))
        clear hown4 hgrow4
        go_wp2
        go_roundw
        case rel => exact ⟨i, j + 1, by omega, by omega, rfl, by go_num, unhide hmr⟩
        case measure => simp [intOf]; omega
      · have hlt' : Op.bytesLess y.toList x.toList = false := by simpa [sLt] using hlt
        have hm2 : Hid ((ya.drop i).merge (yb.drop j) sLe = x :: (ya.drop (i + 1)).merge (yb.drop j) sLe) := by rw [Hid, unhide hmg, if_neg hlt]
        clear hmg hlt
        go_wp2
        go_quiet (fail)
        go_wp2_with (at_builtin; refine wpList_append_where _ rfl _ _ 22 rfl w2.heap.size 9 i0 (.string ⟨#[]⟩) 1 16 Tryf.underlying22 hi hz0 hz1 hz2 rfl (by decide) _ (i + j) _ rfl ((show World.ownsRow (wr.drewN nq) _ _ _ _ _ _ from unhide hown').alloc _) ⟨(wr.drewN nq).heap.size, 0, none⟩ 1 1 [.string x] rfl rfl (cell_one_new _ _ _) (by simp [Value.oneCell']) hx1 (by omega) (by simp; omega) ?_)
        intro v4 w4 hown4 hgrow4 _ _
        have hmr := hide (Mrg.step (unhide hll') (unhide hB') (unhide hM') (unhide hm2) (by omega) (unhide hown') _ hown4 (of_drew hgrow4))
        clear hown4 hgrow4
        go_wp2
        go_roundw
        case rel => exact ⟨i + 1, j, by omega, by omega, by go_num, rfl, unhide hmr⟩
        case measure => simp [intOf]; omega
    · have hex : Hid (l ++ ya.drop i ++ yb.drop j = ya.merge yb sLe) := by
        rw [Hid, ← unhide hM', merge_left (by have := unhide hla'; have := unhide hlb'; omega)]; simp
      have hsa3' := hide hsa3
      have hsb3' := hide hsb3
      clear hsa3 hsb3 hM'
      obtain ⟨L5, hL5⟩ : ∃ L, L = l ++ ya.drop i := ⟨_, rfl⟩
      have hL5' := hide hL5
      have hend : Hid (∀ v6 w6 n6, Below w2.heap.size w2 w6 → w6.ownsRow w2.heap.size 9 1 v6 n6 ((L5 ++ yb.drop j).map Value.string) → SortPost xs w (.returned v6) w6) := fun v6 w6 n6 hb6 ho6 => by
        rw [hL5, unhide hex] at ho6
        exact ⟨v6, _, rfl, strs_own ho6, (unhide hfin).1, (unhide hfin).2, (unhide hbw').trans (hb6.mono (unhide hbw').size)⟩
      clear hex hfin hbw' hL5
      by_cases hi2 : i < md
      all_goals go_wp2_with (at_builtin; refine wpList_append_strs _ rfl _ _ rfl w2.heap.size _ (i + j) l (ya.drop i) rfl (unhide hown') _ _ _ rfl (by first | exact (unhide hsa3').drop i (by omega) | exact (unhide hsa3').drop_if i (by omega)) (by omega) hbs ?_)
      all_goals (
        intro v5 w5 hown5 hgrow5 _
        obtain ⟨q5, hown5, hq5⟩ : ∃ q, w5.ownsRow w2.heap.size 9 1 v5 q (L5.map Value.string) ∧ q ≤ 4194304 := ⟨i + j + (md - i), by rw [unhide hL5']; simpa using hown5, by omega⟩
        have hB5 : Below w2.heap.size w2 w5 := (unhide hB').grown hgrow5 hbs (fun k hk => ((unhide hown').lt k hk).1)
        have hsb5 := hide ((unhide hsb').below hB5)
        have hB5' := hide hB5
        have hs5 := hB5.size
        have hown5' := hide hown5
        clear hown5 hgrow5 hB5
        go_wp2_with (at_builtin; refine wpList_append_strs _ rfl _ _ rfl w2.heap.size _ _ L5 (yb.drop j) rfl (unhide hown5') _ _ _ rfl (by first | exact (unhide hsb5).drop j (by omega) | exact (unhide hsb5).drop_if j (by omega)) (by omega) hs5 ?_))
      all_goals (
        intro v6 w6 hown6 hgrow6 _
        have hp := hide (unhide hend v6 w6 _ ((unhide hB5').grown hgrow6 hs5 (fun k hk => ((unhide hown5').lt k hk).1)) (by simpa using hown6))
        clear hown6 hgrow6
        go_wp2
        go_ret
        exact unhide hp)

theorem sort_any : ∀ (m : Nat) (a : Option Addr) (n c : Nat) (xs : List ByteArray) (w : World), n ≤ m → StrS w (.slice a n c) xs → n ≤ 2097152 → Calls Tryf.prog 35 #[.slice a n c] w (SortPost xs w) := by
  intro m
  induction m with
  | zero => intro a n c xs w hm hs _; exact sort_small a n c xs w hs (by omega)
  | succ m ih =>
    intro a n c xs w hm hs hn
    by_cases h1 : n ≤ 1
    · exact sort_small a n c xs w hs h1
    · have hl := hs.some_cases.1
      obtain ⟨b, o, rfl, _⟩ := hs.some_cases.2.2.2 0 (xs[0]'(by omega)) (by simp)
      exact sort_big b o n c xs w hs (by omega) hn (fun k o' c' ys w' hk hs' => ih _ k c' ys w' (by omega) hs' (by omega))

end Go.Proofs.Qxb6612546aFmt
