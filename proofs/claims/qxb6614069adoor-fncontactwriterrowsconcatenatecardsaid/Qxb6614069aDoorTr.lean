import Derived.Test.Qxb6614069aDoorBio4
import Derived.Test.Qxb6614069aDoorFtoa5
import Derived.Test.Qxb6614069aDoorUint
namespace Go.Proofs.Qxb6614069aDoor
open Go.RowKit

/-- A ContactWriter in block C over the writer X; all its blocks lie from base on. -/
structure CWd (base : Nat) (w : World) (C X R b : Nat) (v rv : Value) (O Pd : List UInt8) : Prop where
  wr : Wr w X R b v O Pd
  c : w.heap[C]? = some (.cells #[.pointer (some ⟨X, 0, none⟩), rv] 55 (0, 0))
  own : rv = .slice none 0 0 ∨ ∃ L : List UInt8, 1 ≤ L.length ∧ w.ownsRow 0 5 1 rv L.length (L.map byteV)
  cS : ¬ WrS X R b v C
  rS : ∀ k, rv.ownBlock = some k → ¬ WrS X R b v k ∧ k ≠ C ∧ k < w.heap.size ∧ base ≤ k
  lo : base ≤ C ∧ ∀ k, WrS X R b v k → base ≤ k

/-- The text that the ContactWriter has been given is T. -/
def CW (base : Nat) (w : World) (C b : Nat) (T : List UInt8) : Prop := ∃ X R v rv O Pd, O ++ Pd = T ∧ CWd base w C X R b v rv O Pd

/-- The header line. -/
def header : List UInt8 := [116, 105, 109, 101, 95, 115, 116, 101, 112, 44, 110, 111, 100, 101, 49, 44, 110, 111, 100, 101, 50, 44, 100, 105, 115, 116, 97, 110, 99, 101, 95, 109, 10]

/-- What a new ContactWriter leaves. -/
def NcP (w : World) (b : Nat) (e : Ending) (w' : World) : Prop := ∃ C, e = .returned (.pointer (some ⟨C, 0, none⟩)) ∧ CW b w' C b header ∧ Kept (fun _ => False) w w'

theorem newCW_last {w w1 : World} {b : Nat} {lr : Int} (hb : w.heap[b]? = some (.cells #[.slice none 0 0, .int .i64 0, .int .i8 lr] 50 (0, 0))) (h1 : ∃ cur : List Value, w1.heap[w.heap.size]? = some (.cells cur.toArray 5 (0, 0)) ∧ cur.length = 4096)
    (h2 : w1.heap[w.heap.size + 1]? = some (.cells #[.nilIface, .slice (some ⟨w.heap.size, 0, none⟩) 4096 4096, .int .i64 0, .iface 25 (.pointer (some ⟨b, 0, none⟩))] 70 (0, 0))) (h3 : Kept (fun _ => False) w w1) (h4 : w1.heap.size = w.heap.size + 2) :
    Wr (w1.alloc (.cells #[.pointer (some ⟨w.heap.size + 1, 0, none⟩), .slice none 0 0] 55)) (w.heap.size + 1) w.heap.size b (.slice none 0 0) [] [] ∧
    (∀ (w3 : World), Wr w3 (w.heap.size + 1) w.heap.size b (.slice none 0 0) [] header → Kept (fun k => k = w.heap.size + 1 ∨ k = w.heap.size) (w1.alloc (.cells #[.pointer (some ⟨w.heap.size + 1, 0, none⟩), .slice none 0 0] 55)) w3 →
      CW b w3 (w.heap.size + 2) b header ∧ Kept (fun _ => False) w w3) := by
  have hlt := Lib.lt_of_heap hb
  obtain ⟨cur, r1, r2⟩ := h1
  have hka := Kept.alloc (fun _ => False) w1 (.cells #[.pointer (some ⟨w.heap.size + 1, 0, none⟩), .slice none 0 0] 55)
  refine ⟨⟨hka.heap h2 (fun h => h), ⟨cur, hka.heap r1 (fun h => h), r2, rfl⟩, by simp, ⟨⟨lr, hka.heap (h3.heap hb (fun h => h)) (fun h => h)⟩, World.ownsRow_nil _ _ _ _, by simp [Value.ownBlock], fun _ => rfl⟩, by omega, by omega, by omega, by simp [Value.ownBlock], by simp [Value.ownBlock]⟩, fun w3 k1 k2 => ⟨⟨w.heap.size + 1, w.heap.size, .slice none 0 0, .slice none 0 0, [], header, rfl, k1, ?_, .inl rfl, ?_, ?_, ?_⟩, ?_⟩⟩
  · refine k2.heap ?_ (by omega)
    rw [← h4]
    exact heap_alloc_new _ _
  · rintro (e | e | e | e)
    · omega
    · omega
    · omega
    · simp [Value.ownBlock] at e
  · intro k hk
    simp [Value.ownBlock] at hk
  · refine ⟨by omega, fun k hk => ?_⟩
    rcases hk with e | e | e | e
    · omega
    · omega
    · omega
    · simp [Value.ownBlock] at e
  · exact (h3.trans hka (fun _ h _ => h)).trans k2 (fun j hj hlt => by omega)

set_option maxRecDepth 100000 in
set_option maxHeartbeats 4000000 in
theorem newCW_any (w : World) (b : Nat) (lr : Int) (hb : w.heap[b]? = some (.cells #[.slice none 0 0, .int .i64 0, .int .i8 lr] 50 (0, 0))) : Calls Tryd.prog 14 #[.iface 25 (.pointer (some ⟨b, 0, none⟩))] w (NcP w b) := by
  have HN := hide (newWriter_any w b)
  have hb' := hide hb
  clear hb
  go_enter Tryd.func14, Tryd.ntmps14
  go_wp2_with fail
  refine (unhide HN).mono ?_
  rintro e w1 ⟨rfl, q1, q2, q3, q4⟩
  obtain ⟨k1, k2⟩ := newCW_last (unhide hb') q1 q2 q3 q4
  have HS := hide (writeString_any _ _ _ b _ [] ⟨header.toArray⟩ k1 (by decide))
  have c0 : (w1.alloc (.cells #[.pointer (some ⟨w.heap.size + 1, 0, none⟩), .slice none 0 0] 55)).cell? ⟨w1.heap.size, 0, none⟩ = some (.pointer (some ⟨w.heap.size + 1, 0, none⟩)) := by
    rw [World.cell?_alloc_new]; rfl
  have k2' := hide k2
  have q4' := hide q4
  clear k1 k2 q1 q2 q3 q4 HN
  go_wp2_with fail
  refine (unhide HS).mono ?_
  rintro e w3 ⟨⟨q, rfl⟩, j1, j2⟩
  obtain ⟨i1, i2⟩ := unhide k2' w3 j1 j2
  have i1' := hide i1
  have i2' := hide i2
  clear j1 j2 i1 i2 k2' HS c0
  go_wp2
  go_ret
  exact ⟨w.heap.size + 2, by rw [unhide q4']; rfl, unhide i1', unhide i2'⟩

set_option maxRecDepth 100000 in
set_option maxHeartbeats 4000000 in
theorem zzNew_any (w : World) : Calls Tryd.prog 5 #[] w fun e w' => ∃ C b, e = .returned (.tuple #[.pointer (some ⟨C, 0, none⟩), .pointer (some ⟨b, 0, none⟩)]) ∧ CW w.heap.size w' C b header ∧ Below w.heap.size w w' ∧ w.heap.size < w'.heap.size := by
  have HN := hide (newCW_any (w.alloc (.cells #[.slice none 0 0, .int .i64 0, .int .i8 0] 50)) w.heap.size 0 (heap_alloc_new w _))
  go_enter Tryd.func5, Tryd.ntmps5
  go_wp2_with fail
  refine (unhide HN).mono ?_
  rintro e w1 ⟨C, rfl, q1, q2⟩
  have q1' := hide q1
  have q2' := hide q2
  clear q1 q2
  go_wp2
  go_ret2
  have h2 := (Kept.alloc (fun _ => False) w (.cells #[.slice none 0 0, .int .i64 0, .int .i8 0] 50)).trans (unhide q2') (fun _ h _ => h)
  refine ⟨C, w.heap.size, rfl, unhide q1', h2.below (Nat.le_refl _) (fun _ h => h.elim), ?_⟩
  have h3 := (unhide q2').size
  rw [size_alloc'] at h3
  omega

end Go.Proofs.Qxb6614069aDoor
