import Derived.Test.Qxb6614069aDoorBase
namespace Go.Proofs.Qxb6614069aDoor
open Go.RowKit

/-- The blocks of S may have turned; every other one is as it was. -/
structure Kept (S : Nat → Prop) (w w' : World) : Prop where
  os : w'.os = w.os
  tape : w'.tape = w.tape
  output : w'.output = w.output
  size : w.heap.size ≤ w'.heap.size
  block : ∀ k, k < w.heap.size → ¬ S k → w'.heap[k]? = w.heap[k]?

theorem Kept.refl (S : Nat → Prop) (w : World) : Kept S w w := ⟨rfl, rfl, rfl, Nat.le_refl _, fun _ _ _ => rfl⟩

theorem Kept.trans {S S' : Nat → Prop} {w w1 w2 : World} (h : Kept S w w1) (k : Kept S' w1 w2) (hS : ∀ j, S' j → j < w.heap.size → S j) : Kept S w w2 :=
  ⟨k.os.trans h.os, k.tape.trans h.tape, k.output.trans h.output, Nat.le_trans h.size k.size, fun j hj hn => by
    rw [k.block j (Nat.lt_of_lt_of_le hj h.size) (fun e => hn (hS j e hj)), h.block j hj hn]⟩

theorem Kept.mono {S S' : Nat → Prop} {w w' : World} (h : Kept S w w') (hS : ∀ j, S j → j < w.heap.size → S' j) : Kept S' w w' :=
  (Kept.refl S' w).trans h hS

theorem Kept.grown {w w' : World} {r : Option Nat} (h : w.grownBy w' r) : Kept (fun k => r = some k) w w' :=
  ⟨h.os, h.tape, h.output, h.size, fun k hk hn => h.block k hk (fun e => hn e.symm)⟩

theorem Kept.below {S : Nat → Prop} {w w' : World} {B : Nat} (h : Kept S w w') (hB : B ≤ w.heap.size) (hS : ∀ k, S k → B ≤ k) : Below B w w' :=
  ⟨h.os, h.tape, h.output, h.size, fun k hk => h.block k (by omega) (fun e => by have := hS k e; omega)⟩

theorem Kept.drew (S : Nat → Prop) (w : World) (n : Nat) : Kept S w (w.drewN n) := ⟨rfl, rfl, rfl, Nat.le_refl _, fun _ _ _ => rfl⟩

theorem Kept.setCell (w : World) (a : Addr) (v : Value) : Kept (fun k => k = a.block) w (w.setCell a v) :=
  ⟨rfl, rfl, rfl, by simp [World.setCell], fun k _ hn => Below.heap_setCell _ _ _ _ hn⟩

theorem Kept.setRow (w : World) (g : Nat) (cs : Array Value) : Kept (fun k => k = g) w (w.setRow g cs) :=
  ⟨rfl, rfl, rfl, by simp [World.setRow], fun k _ hn => setRow_other _ _ _ _ hn⟩

theorem Kept.alloc (S : Nat → Prop) (w : World) (o : Obj) : Kept S w (w.alloc o) :=
  ⟨rfl, rfl, rfl, by simp, fun k hk _ => Below.heap_alloc _ _ _ hk⟩

theorem Kept.heap {S : Nat → Prop} {w w' : World} (h : Kept S w w') {k : Nat} {o : Obj} (hk : w.heap[k]? = some o) (hn : ¬ S k) : w'.heap[k]? = some o :=
  (h.block k (Lib.lt_of_heap hk) hn).trans hk

theorem ownsRow_keptS {S : Nat → Prop} {w w' : World} {base e size n : Nat} {v : Value} {xs : List Value} (h : w.ownsRow base e size v n xs) (hk : Kept S w w') (hn : ∀ k, v.ownBlock = some k → ¬ S k) : w'.ownsRow base e size v n xs := by
  refine ⟨h.1, ?_⟩
  rcases h.2 with h0 | ⟨g, cap, cur, rfl, hb, hg, rest⟩
  · exact .inl h0
  · exact .inr ⟨g, cap, cur, rfl, hb, hk.heap hg (hn g rfl), rest⟩

/-- A bytes.Buffer in block b, its slice v, holding O. -/
structure Bf (w : World) (b : Nat) (v : Value) (O : List UInt8) : Prop where
  blk : ∃ lr, w.heap[b]? = some (.cells #[v, .int .i64 0, .int .i8 lr] 50 (0, 0))
  own : w.ownsRow 0 5 1 v O.length (O.map byteV)
  ne : v.ownBlock ≠ some b
  nil : O.length = 0 → v = .slice none 0 0

theorem Bf.lt {w : World} {b : Nat} {v : Value} {O : List UInt8} (h : Bf w b v O) : b < w.heap.size := by
  obtain ⟨lr, h⟩ := h.blk
  exact Lib.lt_of_heap h

theorem Bf.keptS {S : Nat → Prop} {w w' : World} {b : Nat} {v : Value} {O : List UInt8} (h : Bf w b v O) (hk : Kept S w w') (hb : ¬ S b) (hv : ∀ k, v.ownBlock = some k → ¬ S k) : Bf w' b v O := by
  obtain ⟨lr, h1⟩ := h.blk
  exact ⟨⟨lr, hk.heap h1 hb⟩, ownsRow_keptS h.own hk hv, h.ne, h.nil⟩

theorem Bf.isBuffer {w : World} {b : Nat} {v : Value} {O : List UInt8} (h : Bf w b v O) : Lib.IsBuffer 50 5 0 b (O.map byteV) w := by
  obtain ⟨lr, h1⟩ := h.blk
  refine ⟨Nat.zero_le _, v, lr, h1, ?_, h.ne⟩
  rw [List.length_map]
  exact h.own

/-- Where a row lies behind a write: where it lay, or in a new block. -/
def Went (w : World) (v v' : Value) : Prop := v'.ownBlock = v.ownBlock ∨ ∃ k, v'.ownBlock = some k ∧ w.heap.size ≤ k

theorem Went.refl (w : World) (v : Value) : Went w v v := .inl rfl

theorem Went.trans {w w1 : World} {v v1 v2 : Value} (hs : w.heap.size ≤ w1.heap.size) (h : Went w v v1) (k : Went w1 v1 v2) : Went w v v2 := by
  rcases k with e | ⟨j, e, hj⟩
  · rcases h with e1 | ⟨i, e1, hi⟩
    · exact .inl (e.trans e1)
    · exact .inr ⟨i, e.trans e1, hi⟩
  · exact .inr ⟨j, e, by omega⟩

theorem Went.ne {w : World} {v v' : Value} (h : Went w v v') {k : Nat} (hk : k < w.heap.size) (hn : v.ownBlock ≠ some k) : v'.ownBlock ≠ some k := by
  rcases h with e | ⟨i, e, hi⟩
  · rw [e]; exact hn
  · rw [e]; intro e2; cases e2; omega

end Go.Proofs.Qxb6614069aDoor
