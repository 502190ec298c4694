import Derived.Test.Qxb6612546aFmtFrame
import Derived.Test.Qxb6612546aFmtAppend
namespace Go.Proofs.Qxb6612546aFmt
open Go.RowKit

/-- The append as one step of a region that draws. -/
theorem step_append_where {P : Program} {ops : Array Oper} {o : Oper} {a : Act} {w : World} {K : Act → World → Prop} {Q : Exit → Act → World → Prop} {E : Prop}
    (hgd : o.guard = none) (s x : Operand) (t : TypeId) (ho : o.op = .call { callee := .builtin .append, args := #[s, x], argTypes := #[t, t] })
    (base : Nat) (e : TypeId) (i : TypeInfo) (z : Value) (size bytes : Nat) (ht : P.underlying t = some (.slice e)) (hi : P.info? e = some i) (hz : i.zero = some z)
    (hsize : i.size = size) (hby : i.bytes = bytes) (hzs : z.cells.size = size) (hsz : 0 < size)
    (v : Value) (n : Nat) (xs : List Value) (hs : a.eval s = v) (hown : w.ownsRow base e size v n xs)
    (ad : Addr) (m c : Nat) (news : List Value) (hx : a.eval x = .slice (some ad) m c) (hl : news.length = m * size) (hnews : ∀ j u, news[j]? = some u → w.cell? (ad.add j) = some u) (h1 : ∀ u ∈ news, u.oneCell' = true)
    (h63 : n + m ≤ maxLen) (hbytes : (n + m) * bytes ≤ 140737488355328) (hbase : base ≤ w.heap.size)
    (h : ∀ v' w', w'.ownsRow base e size v' (n + m) (xs ++ news) → w.grownBy w' v.ownBlock → (v' = .slice none 0 0 ↔ v = .slice none 0 0 ∧ m = 0) → (v'.ownBlock = v.ownBlock ∨ v'.ownBlock = some w.heap.size) → K (a.put o.dst v') w') :
    if Region.wanted o (yielded ops a.tmps) = true then Oper.wp P o a w K Q else E := by
  have hw : Region.wanted o (yielded ops a.tmps) = true := by simp [Region.wanted, hgd]
  rw [if_pos hw]
  obtain ⟨v', w', hr, h2, h3, h4, h5⟩ := append_where (P := P) w base t o.type e i z size bytes ht hi hz hsize hby hzs hsz v n xs hown ad m c news hl hnews h1 h63 hbytes hbase
  unfold Oper.wp
  simp [execOp, ho, resolve, invoke, builtin, hs, hx, hr, Result.andThen]
  exact h v' w' h2 h3 h4 h5

namespace Cs
theorem lnok_split {l P : List UInt8} (h : LnOK l P) : (l = l.take (l.length - nlOf l) ++ [10] ∧ (10 : UInt8) ∉ l.take (l.length - nlOf l)) ∨ (l.take (l.length - nlOf l) = l ∧ (10 : UInt8) ∉ l ∧ P = []) := by
  rcases h with ⟨h1, h2⟩ | ⟨a, rfl, h1⟩
  · right
    have : nlOf l = 0 := by unfold nlOf; rw [if_neg]; intro e; exact h1 (List.mem_of_getLast? e)
    rw [this]; simp [h1, h2]
  · left
    have : nlOf (a ++ [10]) = 1 := by simp [nlOf]
    rw [this]; simp [h1]

theorem lnok_tail {pre post P : List UInt8} {c : UInt8} (hc : c ≠ 10) (h : LnOK (pre ++ c :: post) P) : (10 : UInt8) ∉ pre ∧ LnOK post P := by
  rcases h with ⟨h1, h2⟩ | ⟨a, h1, h2⟩
  · simp at h1
    exact ⟨h1.1, .inl ⟨h1.2.2, h2⟩⟩
  · have hne : post ≠ [] := by
      rintro rfl
      have := congrArg List.getLast? h1
      simp at this
      exact hc this
    obtain ⟨b, x, rfl⟩ : ∃ b x, post = b ++ [x] := ⟨post.dropLast, post.getLast hne, (List.dropLast_concat_getLast hne).symm⟩
    rw [show pre ++ c :: (b ++ [x]) = (pre ++ c :: b) ++ [x] by simp] at h1
    obtain ⟨e1, e2⟩ := List.append_inj' h1 rfl
    have hx : x = 10 := by simpa using e2
    subst hx
    rw [← e1] at h2
    simp at h2
    exact ⟨h2.1, .inr ⟨b, rfl, h2.2.2⟩⟩
end Cs

/-- Between two fields. B bounds the lines, T the bytes. -/
def R2 (N : Nat) (s : ByteArray) (ea : Addr) (fpr : Int) (M : List (List (List UInt8) × Nat) × Bool) (w : World) (rows0 : List Value) (last : Value) (pb rl B T : Nat) (k : Nat) (lv : Value) (wr : World) : Prop :=
  ∃ (P cur : List UInt8) (nl : Nat) (raw rec fi fp : Value) (g o c : Nat) (fs : List (List UInt8)), lv = .slice (some ⟨g, o, none⟩) cur.length c ∧ LineAt wr N raw g o c cur ∧ Cs.LnOK cur P ∧
    St w rows0 wr N s P ea fpr nl raw rec fi fp last pb [] fs.flatten (ends 0 fs) fs.length rl ∧ Cs.mach 0 [] fs rl nl (cur ++ Cs.norm P) = M ∧ cur.length + P.length < k ∧ nl + P.length ≤ B ∧ fs.length + fs.flatten.length + cur.length + P.length ≤ T

/-- Inside a quoted field. -/
def R3 (N : Nat) (s : ByteArray) (ea : Addr) (fpr : Int) (M : List (List (List UInt8) × Nat) × Bool) (w : World) (rows0 : List Value) (last : Value) (pb qb rl B T : Nat) (k : Nat) (lv : Value) (wr : World) : Prop :=
  ∃ (P cur acc : List UInt8) (nl : Nat) (raw rec fi fp : Value) (g o c : Nat) (fs : List (List UInt8)), lv = .slice (some ⟨g, o, none⟩) cur.length c ∧ LineAt wr N raw g o c cur ∧ Cs.LnOK cur P ∧
    St w rows0 wr N s P ea fpr nl raw rec fi fp last pb [qb] (fs.flatten ++ acc) (ends 0 fs) fs.length rl ∧ Cs.mach 2 acc fs rl nl (cur ++ Cs.norm P) = M ∧ cur.length + P.length < k ∧ (nl + P.length ≤ B ∨ (cur = [] ∧ P = [] ∧ nl ≤ B + 1)) ∧ fs.length + fs.flatten.length + acc.length + cur.length + P.length ≤ T

/-- Behind the fields. -/
def RE (N : Nat) (s : ByteArray) (ea : Addr) (fpr : Int) (M : List (List (List UInt8) × Nat) × Bool) (w : World) (rows0 : List Value) (last : Value) (pb rl B T : Nat) (e8 : Value) (wr : World) : Prop :=
  ∃ (P acc : List UInt8) (nl : Nat) (raw rec fi fp : Value) (qs : List Nat) (fs : List (List UInt8)), St w rows0 wr N s P ea fpr nl raw rec fi fp last pb qs (fs.flatten ++ acc) (ends 0 fs) fs.length rl ∧ fs.length + fs.flatten.length + acc.length ≤ T + 1 ∧
    ((e8 = .nilIface ∧ acc = [] ∧ 0 < fs.length ∧ nl + P.length ≤ B ∧ M = ((fs, rl) :: (Cs.mach 4 [] [] 0 (nl + 1) (Cs.norm P)).1, (Cs.mach 4 [] [] 0 (nl + 1) (Cs.norm P)).2)) ∨ (M = ([], true) ∧ ∃ p, e8 = .iface 98 (.pointer (some p))))
end Go.Proofs.Qxb6612546aFmt
