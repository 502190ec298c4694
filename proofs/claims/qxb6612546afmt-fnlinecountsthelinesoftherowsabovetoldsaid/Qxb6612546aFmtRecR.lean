import Derived.Test.Qxb6612546aFmtRec1
import Derived.Laws.BytesArg
namespace Go.Proofs.Qxb6612546aFmt
open Go.RowKit

theorem conv_own {W : World} {base n : Nat} {v : Value} {bytes : List UInt8} (h : W.ownsRow base 5 1 v n (bytes.map byteV)) : (convert 29 9 v).run Tryf.prog W = .ok (.string ⟨bytes.toArray⟩) W := by
  have hl : bytes.length = n := by have := h.1; simpa using this
  rcases h.2 with ⟨rfl, rfl⟩ | ⟨g, cap, cur, rfl, _⟩
  · obtain rfl := List.eq_nil_of_length_eq_zero hl
    exact run_convert_bytes_nil (P := Tryf.prog) W 29 5 Tryf.underlying29 Tryf.underlying5 0 0 9 Tryf.underlying9
  · have := run_convert_bytes_arg (P := Tryf.prog) W 29 5 Tryf.underlying29 Tryf.underlying5 g 0 n cap (bytes.map fun b => (b.toNat : Int)) (by simpa using hl) (fun i hi => by
      rw [Nat.zero_add, h.cellAt i (by omega), List.getElem?_map]
      have hi' : i < bytes.length := by omega
      simp [hi', byteV, List.getD]) 9 Tryf.underlying9
    have e : (bytes.map fun b => (b.toNat : Int)).map (fun n => UInt8.ofNat n.toNat) = bytes := by
      rw [List.map_map]
      conv => rhs; rw [← List.map_id bytes]
      apply List.map_congr_left
      intro b _
      simp
    rw [this, strOfNums, e]

/-- A row of strings, cut to another length within its capacity. -/
theorem own_reslice {W : World} {base k c L : Nat} {a : Option Addr} {xs : List Value} (h : W.ownsRow base 9 1 (.slice a k c) k xs) (hL : L ≤ c) : ∃ ys, W.ownsRow base 9 1 (.slice a L c) L ys := by
  rcases h.2 with ⟨h0, h1⟩ | ⟨g, cap, cur, h0, hb, hg, h1, h2, h3, _⟩
  · simp only [Value.slice.injEq] at h0
    obtain ⟨rfl, rfl, rfl⟩ := h0
    obtain rfl : L = 0 := by omega
    exact ⟨[], rfl, .inl ⟨rfl, rfl⟩⟩
  · simp only [Value.slice.injEq] at h0
    obtain ⟨rfl, _, rfl⟩ := h0
    exact ⟨cur.toList.take (L * 1), by rw [List.length_take]; simp; omega, .inr ⟨g, c, cur, rfl, hb, hg, hL, h2, h3, rfl⟩⟩

/-- Where field i lies in the buffer. -/
theorem ends_at : ∀ (fs : List (List UInt8)) (a i : Nat) (x : List UInt8), fs[i]? = some x → (ends a fs)[i]? = some (a + ((fs.take i).flatten).length + x.length)
  | [], _, i, x, h => by simp at h
  | f :: r, a, 0, x, h => by simp at h; subst h; simp [ends]
  | f :: r, a, i + 1, x, h => by
    rw [ends, List.getElem?_cons_succ, ends_at r (a + f.length) i x (by simpa using h)]
    simp
    omega

theorem field_at (fs : List (List UInt8)) (acc : List UInt8) (i : Nat) (x : List UInt8) (h : fs[i]? = some x) : ((fs.flatten ++ acc).drop ((fs.take i).flatten).length).take x.length = x := by
  obtain ⟨hi, rfl⟩ := List.getElem?_eq_some_iff.1 h
  have e : fs = fs.take i ++ fs[i] :: fs.drop (i + 1) := by rw [← List.drop_eq_getElem_cons hi, List.take_append_drop]
  have e2 : fs.flatten = (fs.take i).flatten ++ (fs[i] ++ (fs.drop (i + 1)).flatten) := by
    have := congrArg List.flatten e
    rw [List.flatten_append, List.flatten_cons] at this
    exact this
  rw [e2, List.append_assoc, List.drop_append_of_le_length (Nat.le_refl _), List.drop_length, List.nil_append, List.append_assoc, List.take_append_of_le_length (Nat.le_refl _), List.take_of_length_le (Nat.le_refl _)]
theorem extract_bytes (l : List UInt8) (a n : Nat) : (⟨l.toArray⟩ : ByteArray).extract a (a + n) = ⟨((l.drop a).take n).toArray⟩ := by
  apply ByteArray.ext
  rw [ByteArray.data_extract]
  apply Array.ext'
  simp [List.extract_eq_take_drop]

theorem str_field (fs : List (List UInt8)) (acc : List UInt8) (i : Nat) (x : List UInt8) (h : fs[i]? = some x) : (⟨(fs.flatten ++ acc).toArray⟩ : ByteArray).extract ((fs.take i).flatten).length (((fs.take i).flatten).length + x.length) = ⟨x.toArray⟩ := by
  rw [extract_bytes, field_at fs acc i x h]

theorem take_flat (fs : List (List UInt8)) (i : Nat) (x : List UInt8) (h : fs[i]? = some x) : ((fs.take (i + 1)).flatten).length = ((fs.take i).flatten).length + x.length := by
  obtain ⟨hi, rfl⟩ := List.getElem?_eq_some_iff.1 h
  rw [List.take_succ_eq_append_getElem hi, List.flatten_append, List.length_append]
  simp

theorem take_flat_le (fs : List (List UInt8)) (i : Nat) : ((fs.take i).flatten).length ≤ fs.flatten.length := by
  have := congrArg List.flatten (List.take_append_drop i fs)
  rw [List.flatten_append] at this
  rw [← this, List.length_append]; omega

/-- The row of strings behind k rounds. -/
def fillS (fs : List (List UInt8)) (ys : List Value) (k : Nat) : List Value := (fs.take k).map (fun l => Value.string ⟨l.toArray⟩) ++ ys.drop k

theorem fillS_set (fs : List (List UInt8)) (ys : List Value) (k : Nat) (x : List UInt8) (h : fs[k]? = some x) (hl : ys.length = fs.length) : (fillS fs ys k).set k (.string ⟨x.toArray⟩) = fillS fs ys (k + 1) := by
  obtain ⟨hk, rfl⟩ := List.getElem?_eq_some_iff.1 h
  have h1 : ((fs.take k).map (fun l => Value.string ⟨l.toArray⟩)).length = k := by simp; omega
  unfold fillS
  rw [List.set_append_right _ _ (by omega), h1, Nat.sub_self, List.drop_eq_getElem_cons (by omega : k < ys.length), List.set_cons_zero, List.take_succ_eq_append_getElem hk, List.map_append, List.append_assoc]
  rfl
end Go.Proofs.Qxb6612546aFmt
