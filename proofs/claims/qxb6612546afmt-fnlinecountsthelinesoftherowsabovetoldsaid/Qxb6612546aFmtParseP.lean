import Derived.Test.Qxb6612546aFmtRecR
import Derived.Test.Qxb6612546aFmtSort
import Derived.Laws.IdiomStrings
namespace Go.Proofs.Qxb6612546aFmt
open Go.RowKit

theorem Tryf.info22 : (Tryf.prog.info? 22).map (fun i => (i.zero, i.size, i.bytes)) = some (some (.slice none 0 0), 1, 24) := by kernel_rfl

/-- The records so far: the list of lists and the list of starts, in memory of their own. -/
structure RS (w0 : World) (R : List (List (List UInt8) × Nat)) (us : List Value) (rv sv : Value) (wr : World) : Prop where
  rows : wr.ownsRow w0.heap.size 22 1 rv R.length us
  elts : ∀ (i : Nat) (u : Value), us[i]? = some u → ∃ r : List (List UInt8) × Nat, R[i]? = some r ∧ StrS wr u (strsOf r.1) ∧ ∀ g, u.ownBlock = some g → g < wr.heap.size ∧ rv.ownBlock ≠ some g ∧ sv.ownBlock ≠ some g
  starts : wr.ownsRow w0.heap.size 3 1 sv R.length (R.map fun r => intV r.2)
  sep : ∀ g, rv.ownBlock = some g → sv.ownBlock ≠ some g
  bel : Below w0.heap.size w0 wr

theorem RS.nil (w0 : World) : RS w0 [] [] (.slice none 0 0) (.slice none 0 0) w0 :=
  ⟨⟨rfl, .inl ⟨rfl, rfl⟩⟩, by simp, ⟨rfl, .inl ⟨rfl, rfl⟩⟩, by simp [Value.ownBlock], Below.refl _ _⟩

theorem RS.below {w0 : World} {R : List (List (List UInt8) × Nat)} {us : List Value} {rv sv : Value} {wr w' : World} (h : RS w0 R us rv sv wr) (hb : Below wr.heap.size wr w') : RS w0 R us rv sv w' := by
  have hf : Fr (fun _ => False) wr w' := Fr.of_below hb
  refine ⟨Fr.own h.rows hf (fun _ _ h => h), fun i u hu => ?_, Fr.own h.starts hf (fun _ _ h => h), h.sep, h.bel.trans (hb.mono h.bel.size)⟩
  obtain ⟨r, h1, h2, h3⟩ := h.elts i u hu
  exact ⟨r, h1, h2.below hb, fun g hg => ⟨Nat.lt_of_lt_of_le (h3 g hg).1 hb.size, (h3 g hg).2⟩⟩

/-- A record is put behind. -/
theorem RS.step {w0 : World} {R : List (List (List UInt8) × Nat)} {us : List Value} {rv sv v : Value} {wr w1 w2 w3 : World} (h : RS w0 R us rv sv wr) (hb : Below wr.heap.size wr w1) {fs : List (List UInt8)} {n : Nat} (hv : w1.ownsRow wr.heap.size 9 1 v n ((strsOf fs).map Value.string)) {st : Nat}
    {rv' sv' : Value} (o1 o2 : Obj) (hr : w2.ownsRow w0.heap.size 22 1 rv' (R.length + 1) (us ++ [v])) (hg : (w1.alloc o1).grownBy w2 rv.ownBlock) (hwr : rv'.ownBlock = rv.ownBlock ∨ rv'.ownBlock = some (w1.heap.size + 1))
    (hs : w3.ownsRow w0.heap.size 3 1 sv' (R.length + 1) ((R.map fun r => intV r.2) ++ [intV st])) (hg2 : (w2.alloc o2).grownBy w3 sv.ownBlock) (hws : sv'.ownBlock = sv.ownBlock ∨ sv'.ownBlock = some (w2.heap.size + 1)) :
    RS w0 (R ++ [(fs, st)]) (us ++ [v]) rv' sv' w3 := by
  have h1 := h.below hb
  have hF1 : Fr (fun k => rv.ownBlock = some k) w1 w2 := (Fr.of_below (S := fun k => rv.ownBlock = some k) ((Below.refl _ w1).alloc (Nat.le_refl _) o1)).trans (fr_grown hg) (fun _ _ e => e)
  have hF2 : Fr (fun k => sv.ownBlock = some k) w2 w3 := (Fr.of_below (S := fun k => sv.ownBlock = some k) ((Below.refl _ w2).alloc (Nat.le_refl _) o2)).trans (fr_grown hg2) (fun _ _ e => e)
  have hs1 := hF1.size
  have hs2 := hF2.size
  have e1 : (w1.alloc o1).heap.size = w1.heap.size + 1 := size_alloc' _ _
  have e2 : (w2.alloc o2).heap.size = w2.heap.size + 1 := size_alloc' _ _
  have hg1s := hg.size
  have hg2s := hg2.size
  rw [e1] at hg1s
  rw [e2] at hg2s
  have hsep1 : ∀ g, rv'.ownBlock = some g → sv.ownBlock ≠ some g := fun g hg' e => by
    rcases hwr with e' | e'
    · exact h.sep g (by rw [← e', hg']) e
    · rw [e'] at hg'
      simp at hg'
      have := (h1.starts.lt g e).2
      omega
  have hbl : Below w0.heap.size w0 w3 := by
    refine h1.bel.trans ?_
    have a1 : Below w0.heap.size w1 w2 := hF1.to_below (fun k hk e => by have := (h1.rows.lt k e).1; omega) h1.bel.size
    have a2 : Below w0.heap.size w2 w3 := hF2.to_below (fun k hk e => by have := (h1.starts.lt k e).1; omega) (by have := h1.bel.size; omega)
    exact a1.trans a2
  have keep : ∀ (u : Value) (xs : List ByteArray), StrS w1 u xs → (∀ g, u.ownBlock = some g → g < w1.heap.size ∧ rv.ownBlock ≠ some g ∧ sv.ownBlock ≠ some g) → StrS w3 u xs ∧ ∀ g, u.ownBlock = some g → g < w3.heap.size ∧ rv'.ownBlock ≠ some g ∧ sv'.ownBlock ≠ some g := by
    intro u xs hu hk
    refine ⟨(hu.fr hF1 (fun g hg' => (hk g hg').2.1)).fr hF2 (fun g hg' => (hk g hg').2.2), fun g hg' => ⟨by have := (hk g hg').1; omega, fun e => ?_, fun e => ?_⟩⟩
    · rcases hwr with e' | e'
      · exact (hk g hg').2.1 (by rw [← e', e])
      · rw [e'] at e; simp at e; have := (hk g hg').1; omega
    · rcases hws with e' | e'
      · exact (hk g hg').2.2 (by rw [← e', e])
      · rw [e'] at e; simp at e; have := (hk g hg').1; omega
  refine ⟨?_, ?_, ?_, ?_, hbl⟩
  · rw [List.length_append]; exact Fr.own hr hF2 (fun g hg' => hsep1 g hg')
  · intro i u hu
    have hlen : us.length = R.length := by simpa using h.rows.1
    rcases Nat.lt_or_ge i us.length with hi | hi
    · rw [List.getElem?_append_left hi] at hu
      obtain ⟨r, hr1, hr2, hr3⟩ := h1.elts i u hu
      refine ⟨r, by rw [List.getElem?_append_left (by omega)]; exact hr1, keep u _ hr2 hr3⟩
    · have hi' : i = us.length := by
        have := (List.getElem?_eq_some_iff.1 hu).1
        simp at this; omega
      subst hi'
      rw [List.getElem?_append_right (Nat.le_refl _)] at hu
      simp at hu
      subst hu
      refine ⟨(fs, st), by rw [List.getElem?_append_right (by omega)]; simp [hlen], keep v _ (strs_own hv) (fun g hg' => ?_)⟩
      have hvl := hv.lt g hg'
      refine ⟨hvl.2, fun e => ?_, fun e => ?_⟩
      · have := (h.rows.lt g e).2; omega
      · have := (h.starts.lt g e).2; omega
  · rw [List.length_append, List.map_append]; exact hs
  · intro g hg' e
    rcases hws with e' | e'
    · exact hsep1 g hg' (by rw [← e', e])
    · rw [e'] at e
      simp at e
      have := (hr.lt g hg').2
      omega

theorem byt_at {w : World} {a : Option Addr} {l : List UInt8} (h : BytAt w a l) {p : Nat} (hp : p < l.length) : ∃ b o, a = some ⟨b, o, none⟩ ∧ w.cell? ⟨b, o + p, none⟩ = some (.int .u8 (l[p].toNat : Int)) :=
  h p l[p] (List.getElem?_eq_getElem hp)

theorem byt_below {w w' : World} {a : Option Addr} {l : List UInt8} (h : BytAt w a l) (hb : Below w.heap.size w w') : BytAt w' a l := fun j c hj => by
  obtain ⟨b, o, e, hc⟩ := h j c hj
  exact ⟨b, o, e, by rw [hb.cell (World.block_lt_of_cell? w _ hc)]; exact hc⟩

theorem drop_at {l : List UInt8} {p : Nat} (hp : p < l.length) : l.drop p = l[p] :: l.drop (p + 1) := List.drop_eq_getElem_cons hp

/-- What zzParse leaves. -/
def ParsePost (l : List UInt8) (w : World) (e : Ending) (w' : World) : Prop :=
  ∃ us rv sv, e = .returned (.tuple #[rv, sv, .bool (Cs.mach 4 [] [] 0 1 l).2]) ∧ RS w (Cs.mach 4 [] [] 0 1 l).1 us rv sv w'

/-- Between two records. -/
def P1 (l : List UInt8) (w : World) (rv sv : Value) (p ln : Nat) (wr : World) : Prop :=
  ∃ R us, RS w R us rv sv wr ∧ R.length ≤ p ∧ (R ++ (Cs.mach 4 [] [] 0 ln (l.drop p)).1, (Cs.mach 4 [] [] 0 ln (l.drop p)).2) = Cs.mach 4 [] [] 0 1 l

/-- Inside a record, between two fields. wS: the world at its start. -/
def P2 (l : List UInt8) (K : List (List (List UInt8) × Nat) × Bool) (st p0 : Nat) (wS : World) (v : Value) (d : Bool) (p ln : Nat) (wr : World) : Prop :=
  ∃ fs : List (List UInt8), wr.ownsRow wS.heap.size 9 1 v fs.length ((strsOf fs).map Value.string) ∧ Below wS.heap.size wS wr ∧ p0 ≤ p ∧ fs.length ≤ p + 1 ∧
    ((d = true ∧ K = ((fs, st) :: (Cs.mach 4 [] [] 0 ln (l.drop p)).1, (Cs.mach 4 [] [] 0 ln (l.drop p)).2) ∧ p0 < p) ∨ (d = false ∧ Cs.mach 0 [] fs st ln (l.drop p) = K ∧ fs.length ≤ p))

theorem strsOf_snoc (fs : List (List UInt8)) (acc : List UInt8) : (strsOf (fs ++ [acc])).map Value.string = (strsOf fs).map Value.string ++ [.string ⟨acc.toArray⟩] := by simp [strsOf]

/-- A field is put behind; the world wr is that behind the field's bytes. -/
theorem rec_step {wS wr w2 : World} {v v' : Value} {fs : List (List UInt8)} {acc : List UInt8} (ho : wr.ownsRow wS.heap.size 9 1 v fs.length ((strsOf fs).map Value.string)) (hb : Below wS.heap.size wS wr) (o : Obj)
    (hown : w2.ownsRow wS.heap.size 9 1 v' (fs.length + 1) ((strsOf fs).map Value.string ++ [.string ⟨acc.toArray⟩])) (hg : (wr.alloc o).grownBy w2 v.ownBlock) :
    w2.ownsRow wS.heap.size 9 1 v' (fs ++ [acc]).length ((strsOf (fs ++ [acc])).map Value.string) ∧ Below wS.heap.size wS w2 := by
  refine ⟨by rw [strsOf_snoc, List.length_append]; exact hown, ?_⟩
  exact (hb.alloc hb.size o).grown hg (by rw [size_alloc']; have := hb.size; omega) (fun k hk => (ho.lt k hk).1)

/-- Inside a quoted field. -/
def P3 (l : List UInt8) (K : List (List (List UInt8) × Nat) × Bool) (fs : List (List UInt8)) (st p0 : Nat) (wF : World) (v : Value) (d : Bool) (p ln : Nat) (wr : World) : Prop :=
  ∃ acc : List UInt8, wr.ownsRow wF.heap.size 5 1 v acc.length (acc.map byteV) ∧ Below wF.heap.size wF wr ∧ p0 < p ∧ acc.length ≤ p ∧
    ((d = true ∧ Cs.mach 3 acc fs st ln (l.drop p) = K ∧ (l.drop p).head? ≠ some 34) ∨ (d = false ∧ Cs.mach 2 acc fs st ln (l.drop p) = K))

theorem acc_step {wF wr w2 : World} {v v' : Value} {acc : List UInt8} {c : UInt8} (ho : wr.ownsRow wF.heap.size 5 1 v acc.length (acc.map byteV)) (hb : Below wF.heap.size wF wr) (o : Obj)
    (hown : w2.ownsRow wF.heap.size 5 1 v' (acc.length + 1) (acc.map byteV ++ [byteV c])) (hg : (wr.alloc o).grownBy w2 v.ownBlock) :
    w2.ownsRow wF.heap.size 5 1 v' (acc ++ [c]).length ((acc ++ [c]).map byteV) ∧ Below wF.heap.size wF w2 := by
  refine ⟨by rw [List.length_append, List.map_append]; exact hown, ?_⟩
  exact (hb.alloc hb.size o).grown hg (by rw [size_alloc']; have := hb.size; omega) (fun k hk => (ho.lt k hk).1)

/-- 0 for true. -/
def bN : Value → Nat
  | .bool true => 0
  | _ => 1

/-- A part of the bytes as a string. -/
theorem conv_sub {w : World} {b o n p q : Nat} {l : List UInt8} (h : BytAt w (some ⟨b, o, none⟩) l) (hl : l.length = n) (hpq : p ≤ q) (hq : q ≤ n) (C : Nat) :
    (convert 29 9 (.slice (some ⟨b, o + p, none⟩) (q - p) C)).run Tryf.prog w = .ok (.string ⟨((l.drop p).take (q - p)).toArray⟩) w := by
  have hlen : ((l.drop p).take (q - p)).length = q - p := by simp; omega
  have := run_convert_bytes_back (P := Tryf.prog) w 29 9 5 ⟨b, o + p, none⟩ C ((l.drop p).take (q - p)) Tryf.underlying29 Tryf.underlying5 Tryf.underlying9 (fun j hj => by
    have hj' : j < q - p := by omega
    obtain ⟨b', o', e, hc⟩ := byt_at h (p := p + j) (by omega)
    simp at e
    obtain ⟨rfl, rfl⟩ := e
    have e2 : ((l.drop p).take (q - p))[j] = l[p + j] := by simp
    rw [e2]
    cases j with
    | zero => exact hc
    | succ j => rw [← hc]; show w.cell? ⟨b, o + p + (j + 1), none⟩ = w.cell? ⟨b, o + (p + (j + 1)), none⟩; congr 2; omega)
  rw [hlen] at this
  exact this

theorem conv_sub_if {w : World} {b o n c p q : Nat} {l : List UInt8} (h : BytAt w (some ⟨b, o, none⟩) l) (hl : l.length = n) (hpq : p ≤ q) (hq : q ≤ n) (hc : n ≤ c) :
    (convert 29 9 (.slice (if c = p then some ⟨b, o, none⟩ else some ⟨b, o + p, none⟩) (q - p) (c - p))).run Tryf.prog w = .ok (.string ⟨((l.drop p).take (q - p)).toArray⟩) w := by
  split
  · have e : q - p = 0 := by omega
    have := conv_sub (p := 0) (q := 0) h hl (Nat.le_refl _) (by omega) (c - p)
    rw [e]
    simpa using this
  · exact conv_sub h hl hpq hq (c - p)
end Go.Proofs.Qxb6612546aFmt
