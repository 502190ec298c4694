import Derived.Test.Qxb6612546aFmtText
import Derived.Test.Qxb6612546aFmtAcc
import Derived.Test.Qxb6612546aFmtParseP
import Derived.Test.Qxb6612546aFmtGuard
namespace Go.Proofs.Qxb6612546aFmt
open Go.RowKit Go.Extern.Stop Go.Stop Go.Extern

theorem Env.mono {w : World} {N N' : Nat} {ea fa : Addr} (h : Env w N ea fa) (hN : N ≤ N') : Env w N' ea fa := by
  have := h.glob.lt
  have := h.big
  exact ⟨⟨h.glob.eof, h.glob.full, h.glob.he, h.glob.hf, h.glob.ne, h.glob.e2, h.glob.e3, h.glob.e4, by omega⟩, h.tabs, by omega⟩

/-- The k-th record and its start, read. -/
theorem RS.at {w0 : World} {R : List (List (List UInt8) × Nat)} {us : List Value} {rv sv : Value} {wr : World} (h : RS w0 R us rv sv wr) {k : Nat} {r : List (List UInt8) × Nat} (hk : R[k]? = some r) :
    ∃ g c g' c' a d, rv = .slice (some ⟨g, 0, none⟩) R.length c ∧ sv = .slice (some ⟨g', 0, none⟩) R.length c' ∧ wr.cell? ⟨g, k, none⟩ = some (.slice a r.1.length d) ∧ wr.cell? ⟨g', k, none⟩ = some (.int .i64 r.2) ∧ StrS wr (.slice a r.1.length d) (strsOf r.1) := by
  have hkl := (List.getElem?_eq_some_iff.1 hk).1
  have hul : us.length = R.length := by simpa using h.rows.1
  rcases h.rows.2 with ⟨_, h0⟩ | ⟨g, cap, cur, hrv, _⟩
  · omega
  · rcases h.starts.2 with ⟨_, h0⟩ | ⟨g', cap', cur', hsv, _⟩
    · omega
    · subst hrv
      subst hsv
      obtain ⟨u, hu⟩ : ∃ u, us[k]? = some u := ⟨us[k]'(by omega), by simp⟩
      obtain ⟨r', h1, h2, _⟩ := h.elts k u hu
      rw [hk] at h1
      simp at h1
      subst h1
      obtain ⟨a, d, e, _⟩ := id h2
      have hl : (strsOf r.1).length = r.1.length := by simp [strsOf]
      rw [hl] at e
      subst e
      refine ⟨g, cap, g', cap', a, d, rfl, rfl, ?_, ?_, h2⟩
      · rw [h.rows.cellAt k (by omega)]; exact hu
      · rw [h.starts.cellAt k (by omega), List.getElem?_map, hk]; rfl

theorem RS.slices {w0 : World} {R : List (List (List UInt8) × Nat)} {us : List Value} {rv sv : Value} {wr : World} (h : RS w0 R us rv sv wr) : ∃ a c a' c', rv = .slice a R.length c ∧ sv = .slice a' R.length c' := by
  obtain ⟨a, c, e⟩ := own_shapeN h.rows
  obtain ⟨a', c', e'⟩ := own_shapeN h.starts
  exact ⟨a, c, a', c', e, e'⟩

/-- No more records than bytes and one. -/
theorem Cs.mach_count : ∀ (l : List UInt8) (m : Nat) (acc : List UInt8) (fs : List (List UInt8)) (st ln : Nat), (Cs.mach m acc fs st ln l).1.length ≤ l.length + 1 := by
  intro l
  induction l with
  | nil =>
    intro m acc fs st ln
    rw [Cs.mach]
    split
    · simp
    · split <;> simp
  | cons c l ih =>
    intro m acc fs st ln
    have hi : ∀ m acc fs st ln, (Cs.mach m acc fs st ln l).1.length ≤ (c :: l).length + 1 := fun m acc fs st ln => by
      have := ih m acc fs st ln
      simp only [List.length_cons]; omega
    rw [Cs.mach]
    split
    · split
      · exact hi _ _ _ _ _
      · split
        · exact hi _ _ _ _ _
        · split <;> exact hi _ _ _ _ _
    · split
      · split <;> exact hi _ _ _ _ _
      · split
        · split
          · exact hi _ _ _ _ _
          · split
            · exact hi _ _ _ _ _
            · simp
        · split
          · exact hi _ _ _ _ _
          · split
            · have := ih 4 [] [] 0 (ln + 1)
              simp only [List.length_cons]; omega
            · split
              · simp
              · exact hi _ _ _ _ _

theorem sizes_mem {xs : List ByteArray} {t : ByteArray} (h : t ∈ xs) : t.size ≤ sizes xs := by
  induction xs with
  | nil => simp at h
  | cons a r ih =>
    simp only [sizes, List.map_cons, List.sum_cons]
    rcases List.mem_cons.1 h with rfl | h
    · omega
    · have := ih h; simp only [sizes] at this; omega

/-- zzParse's contract. -/
def ParseC : Prop := ∀ (a : Option Addr) (n c : Nat) (l : List UInt8) (w : World), n ≤ 1048576 → l.length = n → n ≤ c → BytAt w a l → Calls Tryf.prog 10 #[.slice a n c] w (ParsePost l w)

/-- A law's end: true; nothing that was there has turned. -/
def LawPost (w : World) (e : Ending) (w' : World) : Prop := e = .returned (.bool true) ∧ Below w.heap.size w w'
end Go.Proofs.Qxb6612546aFmt
