import Derived.Test.Qxb6614069aDoorRows
import Derived.Test.Qxb6614069aDoorShelf
import Derived.WalkKit
import Derived.WalkSpells
import Derived.WalkLawsBesides
import Derived.Lib.AppendStr
import Derived.WalkMore
import Derived.Deep.Cut
import Derived.Deep.CutRange
import Derived.Deep.QuietTactic
import Derived.Deep.RegionHeld3
import Derived.BigQuiet
import Derived.Laws.CopyOwn
namespace Go.Proofs.Qxb6614069aDoor
open Go.RowKit

theorem hide {p : Prop} (h : p) : Hid p := h
theorem unhide {p : Prop} (h : Hid p) : p := h

/-- A byte as a cell. -/
def byteV (c : UInt8) : Value := .int .u8 c.toNat

theorem size_alloc' (w : World) (o : Obj) : (w.alloc o).heap.size = w.heap.size + 1 := by
  show (w.heap.push o).size = _
  exact Array.size_push _

theorem Tryd.info5 : (Tryd.prog.info? 5).map (fun i => (i.zero, i.size, i.bytes)) = some (some (.int .u8 0), 1, 1) := by kernel_rfl

theorem grownBy_refl (w : World) (r : Option Nat) : w.grownBy w r := ⟨rfl, rfl, rfl, Nat.le_refl _, fun _ _ _ => rfl⟩

/-- Two growths in a row; the second may also turn what is new since the first. -/
theorem grownBy_then {w w1 w2 : World} {r r1 : Option Nat} (h : w.grownBy w1 r) (h1 : w1.grownBy w2 r1) (hr : r1 = r ∨ ∀ k, r1 = some k → w.heap.size ≤ k) : w.grownBy w2 r := by
  refine ⟨h1.os.trans h.os, h1.tape.trans h.tape, h1.output.trans h.output, Nat.le_trans h.size h1.size, fun k hk hne => ?_⟩
  rw [h1.block k (Nat.lt_of_lt_of_le hk h.size) ?_, h.block k hk hne]
  rcases hr with rfl | hr
  · exact hne
  · intro e
    have := hr k e.symm
    omega

theorem grownBy_drew (w : World) (n : Nat) (r : Option Nat) : w.grownBy (w.drewN n) r := ⟨rfl, rfl, rfl, Nat.le_refl _, fun _ _ _ => rfl⟩

/-- The row v0 of w has become v of wr, and holds L; no other block of w has turned. -/
structure AppR (w : World) (v0 : Value) (L : List UInt8) (v : Value) (wr : World) : Prop where
  own : wr.ownsRow 0 5 1 v L.length (L.map byteV)
  grown : w.grownBy wr v0.ownBlock
  at_ : v.ownBlock = v0.ownBlock ∨ ∃ k, v.ownBlock = some k ∧ w.heap.size ≤ k

theorem AppR.refl {w : World} {v : Value} {L : List UInt8} (h : w.ownsRow 0 5 1 v L.length (L.map byteV)) : AppR w v L v w := ⟨h, grownBy_refl _ _, .inl rfl⟩

theorem AppR.trans {w w1 w2 : World} {v0 v1 v2 : Value} {L1 L2 : List UInt8} (h : AppR w v0 L1 v1 w1) (k : AppR w1 v1 L2 v2 w2) : AppR w v0 L2 v2 w2 := by
  have hs := h.grown.size
  refine ⟨k.own, grownBy_then h.grown k.grown ?_, ?_⟩
  · rcases h.at_ with e | ⟨j, e, hj⟩
    · exact .inl e
    · exact .inr fun i hi => by rw [e] at hi; cases hi; exact hj
  · rcases k.at_ with e | ⟨j, e, hj⟩
    · rw [e]; exact h.at_
    · exact .inr ⟨j, e, by omega⟩

theorem AppR.lt {w wr : World} {v0 v : Value} {L : List UInt8} (h : AppR w v0 L v wr) : ∀ k, v.ownBlock = some k → k < wr.heap.size := fun k hk => (h.own.lt k hk).2

/-- New blocks and draws change nothing. -/
theorem AppR.quiet {w wr w2 : World} {v0 v : Value} {L : List UInt8} (h : AppR w v0 L v wr) (hg : wr.grownBy w2 none) : AppR w v0 L v w2 := by
  have hs := hg.size
  refine ⟨h.own.kept hg ?_, grownBy_then h.grown hg (.inr (by simp)), h.at_⟩
  by_cases e : v.ownBlock = none
  · exact .inl e
  · exact .inr e

theorem AppR.alloc {w wr : World} {v0 v : Value} {L : List UInt8} (h : AppR w v0 L v wr) (o : Obj) : AppR w v0 L v (wr.alloc o) := h.quiet (World.grownBy_alloc _ _ _)

/-- What an appending function leaves. -/
def AppP (w : World) (v0 : Value) (L : List UInt8) (e : Ending) (w' : World) : Prop := ∃ v, e = .returned v ∧ AppR w v0 L v w'

theorem AppR.isSlice {w wr : World} {v0 v : Value} {L : List UInt8} (h : AppR w v0 L v wr) : ∃ a c, v = .slice a L.length c ∧ c ≤ maxLen ∧ L.length ≤ c := by
  rcases h.own.2 with ⟨h0, h1⟩ | ⟨g, cap, cur, h0, _, _, h1, h2, _⟩
  · exact ⟨none, 0, by rw [h0, h1], Nat.zero_le _, by omega⟩
  · exact ⟨_, _, h0, h2, h1⟩

/-- Behind an append the slice lies in its old block or in the newest. -/
theorem append_where {P : Program} (w : World) (base : Nat) (t ty e : TypeId) (i : TypeInfo) (z : Value) (size bytes : Nat) (ht : P.underlying t = some (.slice e)) (hi : P.info? e = some i) (hz : i.zero = some z)
    (hsize : i.size = size) (hby : i.bytes = bytes) (hzs : z.cells.size = size) (hsz : 0 < size)
    (v : Value) (n : Nat) (xs : List Value) (hown : w.ownsRow base e size v n xs)
    (a : Addr) (m c : Nat) (news : List Value) (hl : news.length = m * size) (hnews : ∀ j u, news[j]? = some u → w.cell? (a.add j) = some u) (h1 : ∀ u ∈ news, u.oneCell' = true)
    (h63 : n + m ≤ maxLen) (hbytes : (n + m) * bytes ≤ 140737488355328) (hbase : base ≤ w.heap.size) :
    ∃ v' w', (Builtin.append_ #[t, t] ty #[v, .slice (some a) m c]).run P w = .ok v' w' ∧ w'.ownsRow base e size v' (n + m) (xs ++ news) ∧ w.grownBy w' v.ownBlock ∧
      (v' = .slice none 0 0 ↔ v = .slice none 0 0 ∧ m = 0) ∧ (v'.ownBlock = v.ownBlock ∨ v'.ownBlock = some w.heap.size) := by
  obtain ⟨v', w', hr, h2, h3, h4⟩ := run_append_own (P := P) w base t ty e i z size bytes ht hi hz hsize hby hzs hsz v n xs hown a m c news hl hnews h1 h63 hbytes hbase
  refine ⟨v', w', hr, h2, h3, h4, ?_⟩
  have h63' : n + m ≤ 9223372036854775807 := by simp only [maxLen] at h63; omega
  subst hsize
  subst hby
  rcases hown.2 with ⟨rfl, rfl⟩ | ⟨g, cap, cur, rfl, hbg, hg, hnc, hcm, hcs, htake⟩
  · by_cases hm : m = 0
    · rw [h4.2 ⟨rfl, hm⟩]; exact .inl rfl
    · have hr' := run_append_nil (P := P) w t ty e i z ht hi hz a m c news hl hnews (by omega) (by omega) (by have hb := hbytes; simp only [Nat.zero_add] at hb; omega)
      rw [hr'] at hr
      simp only [Result.ok.injEq] at hr
      rw [← hr.1]
      exact .inr rfl
  · by_cases hroom : n + m ≤ cap
    · have hfit : n * i.size + news.length ≤ cur.size := by rw [hl, hcs, ← Nat.add_mul]; exact Nat.mul_le_mul_right _ hroom
      have hr' := run_append_room (P := P) w t ty e i ht hi g n cap cur hg a m c news hl hnews h1 hroom hfit
      rw [hr'] at hr
      simp only [Result.ok.injEq] at hr
      rw [← hr.1]
      exact .inl rfl
    · have hr' := run_append_grow (P := P) w t ty e i z ht hi hz ⟨g, 0, none⟩ n cap xs hown.1 (hown.cells (g := g) rfl) a m c news hl hnews (by omega) (by omega) (growslice_fits (by omega) hbytes)
      rw [hr'] at hr
      simp only [Result.ok.injEq] at hr
      rw [← hr.1]
      exact .inr rfl

/-- The same of a string's bytes. -/
theorem append_where_string {P : Program} (w : World) (base : Nat) (t u ty e : TypeId) (i : TypeInfo) (ht : P.underlying t = some (.slice e)) (hu : P.underlying u = some .string) (hi : P.info? e = some i) (hz : i.zero = some (.int .u8 0))
    (hsize : i.size = 1) (hby : i.bytes = 1) (v : Value) (n : Nat) (xs : List Value) (hown : w.ownsRow base e 1 v n xs) (s : ByteArray)
    (h63 : n + s.size ≤ maxLen) (hbytes : n + s.size ≤ 140737488355328) (hbase : base ≤ w.heap.size) :
    ∃ v' w', (Builtin.append_ #[t, u] ty #[v, .string s]).run P w = .ok v' w' ∧ w'.ownsRow base e 1 v' (n + s.size) (xs ++ Lib.strCells s) ∧ w.grownBy w' v.ownBlock ∧
      (v'.ownBlock = v.ownBlock ∨ v'.ownBlock = some w.heap.size) := by
  obtain ⟨v', w', hr, h2, h3, h4⟩ := Lib.run_append_own_string (P := P) w base t u ty e i ht hu hi hz hsize hby v n xs hown s h63 hbytes hbase
  refine ⟨v', w', hr, h2, h3, ?_⟩
  have h63' : n + s.size ≤ 9223372036854775807 := by simp only [maxLen] at h63; omega
  rcases hown.2 with ⟨rfl, rfl⟩ | ⟨g, cap, cur, rfl, hbg, hg, hnc, hcm, hcs, htake⟩
  · by_cases hm : s.size = 0
    · rw [h4.2 ⟨rfl, hm⟩]; exact .inl rfl
    · have hr' := run_append_nil_string (P := P) w t u ty e i (.int .u8 0) ht hu hi hz s (by omega) (by omega) (by rw [hby]; omega)
      rw [hr'] at hr
      simp only [Result.ok.injEq] at hr
      rw [← hr.1]
      exact .inr rfl
  · by_cases hroom : n + s.size ≤ cap
    · have hcs' : cur.size = cap := by simpa using hcs
      have hr' := Lib.run_append_room_string (P := P) w t u ty e i ht hu hi hsize g n cap cur hg s hroom (by omega)
      rw [hr'] at hr
      simp only [Result.ok.injEq] at hr
      rw [← hr.1]
      exact .inl rfl
    · have hxl : xs.length = n := by simpa using hown.1
      have hr' := Lib.run_append_grow_string (P := P) w t u ty e i (.int .u8 0) ht hu hi hz ⟨g, 0, none⟩ n cap xs (by rw [hsize]; simpa using hxl) (hown.cells (g := g) rfl) s (by omega) (by omega) (by rw [hby]; exact growslice_fits (by omega) (by omega))
      rw [hr'] at hr
      simp only [Result.ok.injEq] at hr
      rw [← hr.1]
      exact .inr rfl

/-- 'append(v, xs...)' of bytes that lie elsewhere. -/
theorem wpList_appRow {ops : Array Oper} {rest : List Oper} {o : Oper} {a : Act} {Q : Exit → Act → World → Prop} (hgd : o.guard = none) (s x : Operand)
    (ho : o.op = .call { callee := .builtin .append, args := #[s, x], argTypes := #[44, 44] })
    (w : World) (v0 v : Value) (L M : List UInt8) (wr : World) (hA : AppR w v0 L v wr) (hs : a.eval s = v)
    (ad : Addr) (c : Nat) (hx : a.eval x = .slice (some ad) M.length c) (hM : ∀ j u, (M.map byteV)[j]? = some u → wr.cell? (ad.add j) = some u)
    (hL : L.length + M.length ≤ 1099511627776)
    (h : ∀ v' w', AppR w v0 (L ++ M) v' w' → wpList Tryd.prog ops Q rest (a.put o.dst v') w') : wpList Tryd.prog ops Q (o :: rest) a wr := by
  obtain ⟨i5, hi5, hi50, hi51, hi52⟩ := info_parts Tryd.info5
  refine wpList_plain hgd fun K hK => ?_
  obtain ⟨v', w', hr, h2, h3, h4, h5⟩ := append_where (P := Tryd.prog) wr 0 44 o.type 5 i5 (.int .u8 0) 1 1 Tryd.underlying44 hi5 hi50 hi51 hi52 rfl (by decide) v L.length (L.map byteV) hA.own ad M.length c (M.map byteV) (by simp) hM
    (by intro u hu; obtain ⟨b, _, rfl⟩ := List.mem_map.1 hu; rfl) (by unfold maxLen; omega) (by omega) (Nat.zero_le _)
  unfold Oper.wp
  simp [execOp, ho, resolve, invoke, builtin, hs, hx, hr, Result.andThen]
  refine hK _ _ (h v' w' (hA.trans ⟨?_, h3, ?_⟩))
  · rw [List.length_append, List.map_append]; exact h2
  · rcases h5 with e | e
    · exact .inl e
    · exact .inr ⟨_, e, Nat.le_refl _⟩

/-- 'append(v, c)': the byte lies in a new block of its own. -/
theorem wpList_app1 {ops : Array Oper} {rest : List Oper} {o : Oper} {a : Act} {Q : Exit → Act → World → Prop} (hgd : o.guard = none) (s x : Operand)
    (ho : o.op = .call { callee := .builtin .append, args := #[s, x], argTypes := #[44, 44] })
    (w : World) (v0 v : Value) (L : List UInt8) (c : UInt8) (wr : World) (hA : AppR w v0 L v wr) (hs : a.eval s = v) (T : TypeId)
    (hx : a.eval x = .slice (some ⟨wr.heap.size, 0, none⟩) 1 1)
    (hL : L.length ≤ 1073741824)
    (h : ∀ v' w', AppR w v0 (L ++ [c]) v' w' → wpList Tryd.prog ops Q rest (a.put o.dst v') w') : wpList Tryd.prog ops Q (o :: rest) a (wr.alloc (.cells #[byteV c] T)) :=
  wpList_appRow hgd s x ho w v0 v L [c] _ (hA.alloc _) hs ⟨wr.heap.size, 0, none⟩ 1 hx (cell_one_new _ _ _) (by simp; omega) h

/-- 'append(v, s...)' of a string. -/
theorem wpList_appS {ops : Array Oper} {rest : List Oper} {o : Oper} {a : Act} {Q : Exit → Act → World → Prop} (hgd : o.guard = none) (s x : Operand)
    (ho : o.op = .call { callee := .builtin .append, args := #[s, x], argTypes := #[44, 9] })
    (w : World) (v0 v : Value) (L M : List UInt8) (wr : World) (hA : AppR w v0 L v wr) (hs : a.eval s = v)
    (hx : a.eval x = .string ⟨M.toArray⟩) (hL : L.length + M.length ≤ 1099511627776)
    (h : ∀ v' w', AppR w v0 (L ++ M) v' w' → wpList Tryd.prog ops Q rest (a.put o.dst v') w') : wpList Tryd.prog ops Q (o :: rest) a wr := by
  obtain ⟨i5, hi5, hi50, hi51, hi52⟩ := info_parts Tryd.info5
  have hsz : (⟨M.toArray⟩ : ByteArray).size = M.length := by simp [ByteArray.size]
  refine wpList_plain hgd fun K hK => ?_
  obtain ⟨v', w', hr, h2, h3, h5⟩ := append_where_string (P := Tryd.prog) wr 0 44 9 o.type 5 i5 Tryd.underlying44 Tryd.underlying9 hi5 hi50 hi51 hi52 v L.length (L.map byteV) hA.own ⟨M.toArray⟩ (by rw [hsz]; unfold maxLen; omega) (by rw [hsz]; omega) (Nat.zero_le _)
  rw [hsz] at h2
  unfold Oper.wp
  simp [execOp, ho, resolve, invoke, builtin, hs, hx, hr, Result.andThen]
  refine hK _ _ (h v' w' (hA.trans ⟨?_, h3, ?_⟩))
  · rw [List.length_append, List.map_append]; exact h2
  · rcases h5 with e | e
    · exact .inl e
    · exact .inr ⟨_, e, Nat.le_refl _⟩

end Go.Proofs.Qxb6614069aDoor
