import Derived.Test.Qxb6612546aFmtNew
namespace Go.Proofs.Qxb6612546aFmt
open Go.RowKit Go.Extern.Stop Go.Stop Go.Extern

set_option maxRecDepth 100000 in
set_option maxHeartbeats 1000000 in
theorem fromText_any (F : Interp) (s : ByteArray) (req opt : List ByteArray) (a1 a2 : Option Addr) (n1 n2 c1 c2 : Nat) (ea fa : Addr) (w : World) (hF : F.answers w.tape) (hs : s.size ≤ 4194304)
    (hE : ∀ wr, Below w.heap.size w wr → Env wr w.heap.size ea fa) (h1 : StrS w (.slice a1 n1 c1) req) (h2 : StrS w (.slice a2 n2 c2) opt) (hl : n1 + n2 ≤ 4194304) (hz : ∀ t, t ∈ req ∨ t ∈ opt → t.size ≤ 4194304) :
    Calls Tryf.prog 12 #[.string s, .slice a1 n1 c1, .slice a2 n2 c2] w (NewPost w.heap.size s req opt ea w) := by
  obtain ⟨o, ho⟩ : ∃ o, o = Obj.cells #[.string s, .int .i64 0, .int .i64 (-1)] 78 := ⟨_, rfl⟩
  have hal : Below w.heap.size w (w.alloc o) := (Below.refl _ w).alloc (Nat.le_refl _) o
  have HN := hide (new_any F w.heap.size s req opt a1 a2 n1 n2 c1 c2 ea fa (w.alloc o) hF (size_alloc w o) hs (by rw [heap_alloc_new, ho]) (fun wr hb => hE wr (hal.trans hb)) (fun wr hb => h1.below (hal.trans hb)) (fun wr hb => h2.below (hal.trans hb)) hl hz)
  have HS := hide (newSrc_any s w)
  rw [← ho] at HS
  have hal' := hide hal
  clear hE h1 h2 hl hz hF hs hal ho
  go_enter Tryf.func12, Tryf.ntmps12
  go_wp2_with fail
  refine (unhide HS).mono ?_
  rintro en w1 ⟨rfl, rfl⟩
  clear HS
  go_wp2_with fail
  refine (unhide HN).mono ?_
  rintro en w2 ⟨hb, hc⟩
  have hb' : Hid (Below w.heap.size w w2) := (unhide hal').trans hb
  clear HN hb
  rcases hc with ⟨hno, t, p, rfl⟩ | ⟨x, st, P', nl', T, k1, k2, k3, k4, k5, rfl, k6⟩
  · have hno' := hide hno
    clear hno
    go_wp2
    go_ret2
    exact ⟨unhide hb', .inl ⟨unhide hno', _, _, rfl⟩⟩
  · have k := hide (And.intro k1 (And.intro k2 (And.intro k3 (And.intro k4 (And.intro k5 k6)))))
    clear k1 k2 k3 k4 k5 k6
    go_wp2
    go_ret2
    obtain ⟨k1, k2, k3, k4, k5, k6⟩ := unhide k
    exact ⟨unhide hb', .inr ⟨x, st, P', nl', T, k1, k2, k3, k4, k5, rfl, k6⟩⟩
end Go.Proofs.Qxb6612546aFmt
