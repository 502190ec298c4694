import Derived.Test.Qxb6609067aFmtWords
import Derived.Test.Qxb6609067aFmtBuild
import Derived.Test.Qxb6609067aFmtPlainC
namespace Go.Proofs.Qxb6609067aFmt
open Go.RowKit Go.Extern.Stop Go.Stop Go.Extern

/-- All blocks are as they were, but those in S. -/
structure Fr (S : Nat → Prop) (w w' : World) : Prop where
  os : w'.os = w.os
  tape : w'.tape = w.tape
  output : w'.output = w.output
  size : w.heap.size ≤ w'.heap.size
  block : ∀ k, k < w.heap.size → ¬ S k → w'.heap[k]? = w.heap[k]?

theorem Fr.refl (S : Nat → Prop) (w : World) : Fr S w w := ⟨rfl, rfl, rfl, Nat.le_refl _, fun _ _ _ => rfl⟩

theorem Fr.trans {S T : Nat → Prop} {a b c : World} (h : Fr S a b) (k : Fr T b c) (hT : ∀ i, i < a.heap.size → T i → S i) : Fr S a c :=
  ⟨k.os.trans h.os, k.tape.trans h.tape, k.output.trans h.output, Nat.le_trans h.size k.size, fun i hi hs => (k.block i (Nat.lt_of_lt_of_le hi h.size) (fun e => hs (hT i hi e))).trans (h.block i hi hs)⟩

theorem Fr.of_below {S : Nat → Prop} {a b : World} (h : Below a.heap.size a b) : Fr S a b := ⟨h.os, h.tape, h.output, h.size, fun k hk _ => h.block k hk⟩

theorem Fr.to_below {S : Nat → Prop} {w w' : World} {B : Nat} (h : Fr S w w') (hS : ∀ k, k < B → ¬ S k) (hB : B ≤ w.heap.size) : Below B w w' :=
  ⟨h.os, h.tape, h.output, h.size, fun k hk => h.block k (by omega) (hS k hk)⟩

theorem Fr.cell {S : Nat → Prop} {w w' : World} (h : Fr S w w') {a : Addr} {v : Value} (hc : w.cell? a = some v) (hs : ¬ S a.block) : w'.cell? a = some v := by
  rw [World.cell?_of_block (h.block a.block (World.block_lt_of_cell? w a hc) hs)]; exact hc

theorem StrS.fr {S : Nat → Prop} {w w' : World} {v : Value} {xs : List ByteArray} (h : StrS w v xs) (hf : Fr S w w') (hs : ∀ g, v.ownBlock = some g → ¬ S g) : StrS w' v xs :=
  h.same fun _ _ ha ho => hf.cell ha (hs _ ho)

theorem Inst.store {w : World} {B : Nat} {line : Int} {kw ar : ByteArray} {vE vF vW vP : Value} (h : Inst w B line kw ar vE vF vW vP) (v : Value) : Inst (w.setCell ⟨B, 6, none⟩ v) B line kw ar vE vF vW v := by
  refine ⟨?_⟩
  rw [heap_setCell_same w B 6 _ _ v h.block]
  rfl

theorem Inst.fr {S : Nat → Prop} {w w' : World} {B : Nat} {line : Int} {kw ar : ByteArray} {vE vF vW vP : Value} (h : Inst w B line kw ar vE vF vW vP) (hf : Fr S w w') (hs : ¬ S B) : Inst w' B line kw ar vE vF vW vP :=
  ⟨by rw [hf.block B (Array.getElem?_eq_some_iff.1 h.block).1 hs]; exact h.block⟩

theorem Inst.lt {w : World} {B : Nat} {line : Int} {kw ar : ByteArray} {vE vF vW vP : Value} (h : Inst w B line kw ar vE vF vW vP) : B < w.heap.size := (Array.getElem?_eq_some_iff.1 h.block).1

theorem fr_grown {w w' : World} {r : Option Nat} {n : Nat} {o : Obj} (h : ((w.drewN n).alloc o).grownBy w' r) : Fr (fun k => r = some k) w w' :=
  ⟨h.os, h.tape, h.output, by have := h.size; simp at this; omega, fun k hk hs => by
    rw [h.block k (by simp; omega) (fun e => hs e.symm)]
    exact Below.heap_alloc (w.drewN n) o k hk⟩

theorem bdrew {B n : Nat} {a w : World} (h : Below B a w) : Below B a (w.drewN n) := h.trans ⟨rfl, rfl, rfl, Nat.le_refl _, fun _ _ => rfl⟩

/-- What the loop over the words knows. -/
structure RP (B base n : Nat) (line : Int) (kw ar : ByteArray) (vE vF vW vP : Value) (ps : List (ByteArray × ByteArray)) (w1 : World) (v : Value) (outs : List (ByteArray × ByteArray)) (wr : World) : Prop where
  inst : Inst wr B line kw ar vE vF vW v
  own : wr.ownsRow base 48 2 v (n + outs.length) (pairCells (ps ++ outs))
  wh : v.ownBlock = vP.ownBlock ∨ ∃ g, v.ownBlock = some g ∧ w1.heap.size ≤ g
  nil : isNilS v = (isNilS vP && outs.isEmpty)
  fr : Fr (fun k => k = B ∨ vP.ownBlock = some k) w1 wr

theorem own_setCell_ne {w : World} {base e size n B j : Nat} {v : Value} {xs : List Value} (h : w.ownsRow base e size v n xs) (hne : v.ownBlock ≠ some B) (u : Value) : (w.setCell ⟨B, j, none⟩ u).ownsRow base e size v n xs := by
  refine h.kept (row := some B) ⟨rfl, rfl, rfl, by simp [World.setCell], fun k _ hk => Below.heap_setCell _ _ _ _ (fun e => hk (by rw [e]))⟩ ?_
  right; exact hne

theorem RP.step {B base n m : Nat} {line : Int} {kw ar : ByteArray} {vE vF vW vP v v' : Value} {ps outs : List (ByteArray × ByteArray)} {w1 wr w2 : World} {o : Obj} (a b : ByteArray)
    (h : RP B base n line kw ar vE vF vW vP ps w1 v outs wr) (hB1 : B < w1.heap.size) (hneB : vP.ownBlock ≠ some B)
    (hown : w2.ownsRow base 48 2 v' (n + outs.length + 1) (pairCells (ps ++ outs) ++ [.string a, .string b])) (hgrow : ((wr.drewN m).alloc o).grownBy w2 v.ownBlock)
    (hv0 : ¬ v' = .slice none 0 0) (hwh : v'.ownBlock = v.ownBlock ∨ v'.ownBlock = some (wr.heap.size + 1)) :
    RP B base n line kw ar vE vF vW vP ps w1 v' (outs ++ [(a, b)]) (w2.setCell ⟨B, 6, none⟩ v') := by
  have hBr := h.inst.lt
  have hvB : v.ownBlock ≠ some B := by
    rcases h.wh with e | ⟨g, e, hg⟩
    · rw [e]; exact hneB
    · rw [e]; intro e'; simp at e'; omega
  have hv'B : v'.ownBlock ≠ some B := by
    rcases hwh with e | e
    · rw [e]; exact hvB
    · rw [e]; intro e'; simp at e'; omega
  have hf2 := fr_grown hgrow
  have hsz := h.fr.size
  refine ⟨(h.inst.fr hf2 hvB).store v', ?_, ?_, ?_, ?_⟩
  · have e1 : n + (outs ++ [(a, b)]).length = n + outs.length + 1 := by simp; omega
    have e2 : pairCells (ps ++ (outs ++ [(a, b)])) = pairCells (ps ++ outs) ++ [.string a, .string b] := by
      rw [← List.append_assoc, pairCells_append]; rfl
    rw [e1, e2]
    exact own_setCell_ne hown hv'B v'
  · rcases hwh with e | e
    · rw [e]; exact h.wh
    · exact .inr ⟨_, e, by omega⟩
  · have : isNilS v' = false := by
      rcases hown.2 with ⟨e, _⟩ | ⟨g, cap, cur, e, _⟩
      · exact absurd e hv0
      · rw [e]; rfl
    rw [this]; simp
  · refine (h.fr.trans hf2 fun i hi e => ?_).trans (T := fun k => k = B) ⟨rfl, rfl, rfl, by simp [World.setCell], fun k _ hk => Below.heap_setCell _ _ _ _ hk⟩ (fun i _ e => .inl e)
    rcases h.wh with e' | ⟨g, e', hg⟩
    · right; rw [← e']; exact e
    · rw [e'] at e; simp at e; omega

def ErrIs (b : Bool) (e : Ending) : Prop := (b = false ∧ e = .returned .nilIface) ∨ (b = true ∧ ∃ p, e = .returned (.iface 85 (.pointer (some p))))

/-- What reading the pairs leaves. -/
def PairsPost (B base : Nat) (line : Int) (kw ar : ByteArray) (vE vF vW vP : Value) (ps : List (ByteArray × ByteArray)) (res : List (ByteArray × ByteArray) × Bool) (w : World) (e : Ending) (w' : World) : Prop :=
  ErrIs res.2 e ∧ ∃ v n, Inst w' B line kw ar vE vF vW v ∧ w'.ownsRow base 48 2 v n (pairCells (ps ++ res.1)) ∧ (v.ownBlock = vP.ownBlock ∨ ∃ g, v.ownBlock = some g ∧ w.heap.size ≤ g) ∧
    isNilS v = (isNilS vP && res.1.isEmpty) ∧ Fr (fun k => k = B ∨ vP.ownBlock = some k) w w'

def joinQ (outs : List (ByteArray × ByteArray)) (x : List (ByteArray × ByteArray) × Bool) : List (ByteArray × ByteArray) × Bool := (outs ++ x.1, x.2)

theorem joinQ_bad {outs : List (ByteArray × ByteArray)} {x : ByteArray} {r : List ByteArray} (h : Pl.eqAt 0 0 x.data.toList ≤ 0) : joinQ outs (pairsL (x :: r)) = (outs, true) := by
  rw [pairsL, if_pos h]; simp [joinQ]

theorem joinQ_step {outs : List (ByteArray × ByteArray)} {x : ByteArray} {r : List ByteArray} {q : Nat} (h : Pl.eqAt 0 0 x.data.toList = q) (h0 : 0 < q) :
    joinQ outs (pairsL (x :: r)) = joinQ (outs ++ [(x.extract 0 q, x.extract (q + 1) x.size)]) (pairsL r) := by
  rw [pairsL, if_neg (by omega), h]; simp [joinQ]

/-- The result of reading an argument's pairs. -/
def readRes (ar : ByteArray) : List (ByteArray × ByteArray) × Bool := if (allW ar).2 = true then pairsL ((allW ar).1.map (seg ar)) else ([], true)

theorem RP.post {B base n : Nat} {line : Int} {kw ar : ByteArray} {vE vF vW vP v : Value} {ps outs : List (ByteArray × ByteArray)} {w w1 wr wx : World} {b : Bool} {e : Ending} (h : RP B base n line kw ar vE vF vW vP ps w1 v outs wr) (hb : Below w.heap.size w w1)
    (hx : Below wr.heap.size wr wx) (he : ErrIs b e) : PairsPost B base line kw ar vE vF vW vP ps (outs, b) w e wx := by
  have hz := hb.size
  refine ⟨he, v, n + outs.length, h.inst.fr (S := fun _ => False) (Fr.of_below hx) (by simp), ownsRow_below h.own hx, ?_, h.nil, ?_⟩
  · rcases h.wh with e | ⟨g, e, hg⟩
    · exact .inl e
    · exact .inr ⟨g, e, by omega⟩
  · refine ((Fr.of_below (S := fun k => k = B ∨ vP.ownBlock = some k) hb).trans h.fr (fun i _ e => e)).trans (Fr.of_below (S := fun _ => False) hx) (fun i _ e => absurd e (by simp))

end Go.Proofs.Qxb6609067aFmt
