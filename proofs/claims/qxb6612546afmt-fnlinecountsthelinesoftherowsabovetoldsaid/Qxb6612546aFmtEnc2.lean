import Derived.Test.Qxb6612546aFmtEnc
import Derived.Test.Qxb6612546aFmtRecR
namespace Go.Proofs.Qxb6612546aFmt
open Go.RowKit

theorem strsOf_bytesOf (xs : List ByteArray) : strsOf (bytesOf xs) = xs := by
  simp only [strsOf, bytesOf, List.map_map]
  conv => rhs; rw [← List.map_id xs]
  rfl

/-- v is a slice of slices of strings; in the world w its elements are xss. -/
def RowsS (w : World) (v : Value) (xss : List (List ByteArray)) : Prop :=
  ∃ a c, v = .slice a xss.length c ∧ ∀ i xs, xss[i]? = some xs → ∃ b o u d, a = some ⟨b, o, none⟩ ∧ w.cell? ⟨b, o + i, none⟩ = some (.slice u xs.length d) ∧ StrS w (.slice u xs.length d) xs

theorem RowsS.below {w w' : World} {v : Value} {xss : List (List ByteArray)} (h : RowsS w v xss) (hb : Below w.heap.size w w') : RowsS w' v xss := by
  obtain ⟨a, c, e, hc⟩ := h
  refine ⟨a, c, e, fun i xs hi => ?_⟩
  obtain ⟨b, o, u, d, h1, h2, h3⟩ := hc i xs hi
  exact ⟨b, o, u, d, h1, by rw [hb.cell (World.block_lt_of_cell? w _ h2)]; exact h2, h3.below hb⟩

theorem RowsS.cells {w : World} {a : Option Addr} {n c : Nat} {xss : List (List ByteArray)} (h : RowsS w (.slice a n c) xss) :
    xss.length = n ∧ ∀ i xs, xss[i]? = some xs → ∃ b o u d, a = some ⟨b, o, none⟩ ∧ w.cell? ⟨b, o + i, none⟩ = some (.slice u xs.length d) ∧ StrS w (.slice u xs.length d) xs := by
  obtain ⟨a', c', e, hc⟩ := h
  simp only [Value.slice.injEq] at e
  obtain ⟨rfl, rfl, rfl⟩ := e
  exact ⟨rfl, hc⟩

/-- The bytes of the rows. -/
def rowsOf2 (xss : List (List ByteArray)) : List (List (List UInt8)) := xss.map bytesOf

theorem rows_at {xss : List (List ByteArray)} {k : Nat} {xs : List ByteArray} (h : xss[k]? = some xs) : (rowsOf2 xss).take (k + 1) = (rowsOf2 xss).take k ++ [bytesOf xs] := by
  obtain ⟨hi, rfl⟩ := List.getElem?_eq_some_iff.1 h
  rw [List.take_succ_eq_append_getElem (by simpa [rowsOf2] using hi)]
  simp [rowsOf2]

/-- All the bytes, two a byte, three a field, one a row. -/
def wids (rs : List (List (List UInt8))) : Nat := (rs.map fun r => Cs.wid r + 1).sum

theorem wids_take (r : List (List (List UInt8))) (i : Nat) : wids (r.take i) + wids (r.drop i) = wids r := by
  unfold wids
  rw [← List.sum_append, ← List.map_append, List.take_append_drop]

set_option maxRecDepth 100000 in
set_option maxHeartbeats 2000000 in
/-- zzEncode. -/
theorem encode_any (a1 a2 : Option Addr) (n1 n2 c1 c2 : Nat) (xs : List ByteArray) (xss : List (List ByteArray)) (w : World) (h1 : StrS w (.slice a1 n1 c1) xs) (h2 : RowsS w (.slice a2 n2 c2) xss)
    (hz1 : ∀ t ∈ xs, t.size ≤ 1048576) (hz2 : ∀ r ∈ xss, r.length ≤ 1048576 ∧ ∀ t ∈ r, t.size ≤ 1048576) (hn1 : n1 ≤ 1048576) (hn2 : n2 ≤ 1048576) (hlen : wids (rowsOf2 (xs :: xss)) ≤ 4194304) :
    Calls Tryf.prog 23 #[.slice a1 n1 c1, .slice a2 n2 c2] w fun e w' => e = .returned (.string ⟨(Cs.encRows (rowsOf2 (xs :: xss))).toArray⟩) ∧ Below w.heap.size w w' := by
  obtain ⟨hl2, _⟩ := h2.cells
  have hw0 : wids (rowsOf2 (xs :: xss)) = Cs.wid (bytesOf xs) + 1 + wids (rowsOf2 xss) := by simp [wids, rowsOf2]
  have HA := hide (appendRow_any w.heap.size (.slice none 0 0) [] a1 n1 c1 xs w ⟨rfl, .inl ⟨rfl, rfl⟩⟩ (Nat.le_refl _) (fun wr hb => h1.below hb) hz1 hn1 (by simp; omega))
  have h2' := hide h2
  have hz2' := hide hz2
  have hl2' := hide hl2
  have hw0' := hide hw0
  have hlen' := hide hlen
  clear h1 h2 hz1 hz2 hl2 hw0 hlen
  go_enter Tryf.func23, Tryf.ntmps23
  go_wp2_with fail
  refine (unhide HA).mono ?_
  rintro en w1 ⟨v, rfl, hA1⟩
  have hst : Hid (AR w.heap.size w (Cs.encRow (bytesOf xs)) v w1) := by rw [Hid]; simpa using hA1
  clear HA hA1
  go_wp2
  go_loopw [5, 6] (fun bv kv wr => ∃ k : Nat, k ≤ n2 ∧ kv = .int .i64 k ∧ AR w.heap.size w (Cs.encRow (bytesOf xs) ++ Cs.encRows ((rowsOf2 xss).take k)) bv wr) (fun _ kv _ => n2 - (intOf kv).toNat)
  case atStart => exact ⟨0, Nat.zero_le _, rfl, by simpa [Cs.encRows] using unhide hst⟩
  case round =>
    clear hst
    obtain ⟨k, hk, rfl, hA⟩ := hrel
    obtain ⟨L, hL⟩ : ∃ L, L = Cs.encRow (bytesOf xs) ++ Cs.encRows ((rowsOf2 xss).take k) := ⟨_, rfl⟩
    rw [← hL] at hA
    have hLb : L.length ≤ Cs.wid (bytesOf xs) + 1 + wids ((rowsOf2 xss).take k) := by
      have q1 := Cs.encFs_length (bytesOf xs)
      have q2 := Cs.encRows_length ((rowsOf2 xss).take k)
      rw [hL, List.length_append, Cs.encRow, List.length_append]
      simp only [List.length_cons, List.length_nil, wids]
      omega
    have hL' := hide hL
    have hA' := hide hA
    have hLb' := hide hLb
    clear hL hA hLb
    by_cases hlt : k < n2
    · obtain ⟨ys, hy⟩ : ∃ ys, xss[k]? = some ys := ⟨xss[k]'(by have := unhide hl2'; omega), by simp⟩
      obtain ⟨b1, o1, u, d, rfl, cx, hS⟩ := ((unhide h2').below (unhide hA').2.1).cells.2 k ys hy
      have hrow : ∀ wq, Below w.heap.size wr wq → StrS wq (.slice u ys.length d) ys := fun wq hb => by
        obtain ⟨_, _, u', d', e, cx', hS'⟩ := ((unhide h2').below ((unhide hA').2.1.trans hb)).cells.2 k ys hy
        cases e
        obtain ⟨_, _, u0, d0, e0, cx0, hS0⟩ := (unhide h2').cells.2 k ys hy
        cases e0
        have hlt0 := World.block_lt_of_cell? w _ cx0
        rw [(unhide hA').2.1.cell hlt0, cx0] at cx
        rw [((unhide hA').2.1.trans hb).cell hlt0, cx0] at cx'
        rw [← (Option.some.inj cx)]
        exact hS0.below ((unhide hA').2.1.trans hb)
      have hzy := unhide hz2' ys (List.mem_of_getElem? hy)
      have hww : Cs.wid (bytesOf ys) + 1 + wids ((rowsOf2 xss).take k) ≤ wids (rowsOf2 xss) := by
        have q1 := wids_take (rowsOf2 xss) (k + 1)
        rw [rows_at hy] at q1
        have q2 : wids ((rowsOf2 xss).take k ++ [bytesOf ys]) = wids ((rowsOf2 xss).take k) + (Cs.wid (bytesOf ys) + 1) := by simp [wids]
        omega
      have HA := hide (appendRow_any w.heap.size u5 L u ys.length d ys wr (unhide hA').1 (unhide hA').2.2 hrow hzy.2 hzy.1 (by have := unhide hLb'; have := unhide hw0'; have := unhide hlen'; omega))
      have hfin : Hid (L ++ Cs.encRow (bytesOf ys) = Cs.encRow (bytesOf xs) ++ Cs.encRows ((rowsOf2 xss).take (k + 1))) := by
        rw [Hid, rows_at hy, Cs.encRows_append, unhide hL']
        simp [Cs.encRows]
      rw [unhide hfin] at HA
      clear hS hrow hzy hww hfin hy hLb'
      go_wp2_with fail
      refine (unhide HA).mono ?_
      rintro en w2 ⟨v2, rfl, hA2⟩
      have hA2' : Hid (AR w.heap.size w (Cs.encRow (bytesOf xs) ++ Cs.encRows ((rowsOf2 xss).take (k + 1))) v2 w2) := ⟨hA2.1, (unhide hA').2.1.trans hA2.2.1, hA2.2.2⟩
      clear HA hA2
      go_wp2
      go_roundw
      case rel => exact ⟨k + 1, by omega, by go_num, unhide hA2'⟩
      case measure => simp [intOf]; omega
    · have hfin : Hid (L = Cs.encRows (rowsOf2 (xs :: xss))) := by
        rw [Hid, unhide hL', List.take_of_length_le (by simp [rowsOf2]; have := unhide hl2'; omega)]
        rfl
      have hconv := conv_own (unhide hA').1
      rw [unhide hfin] at hconv
      go_wp2
      go_ret
      exact ⟨rfl, (unhide hA').2.1⟩
end Go.Proofs.Qxb6612546aFmt
