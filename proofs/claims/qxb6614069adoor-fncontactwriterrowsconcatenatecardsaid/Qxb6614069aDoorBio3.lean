import Derived.Test.Qxb6614069aDoorBio2
namespace Go.Proofs.Qxb6614069aDoor
open Go.RowKit

/-- Behind a copy into the writer's buffer. -/
theorem Wr.put {w w1 : World} {X R b : Nat} {v : Value} {O Pd : List UInt8} (h : Wr w X R b v O Pd) {cur : List Value} (hlen : cur.length = 4096) (htk : cur.take Pd.length = Pd.map byteV) (P : List UInt8) (hfit : Pd.length + P.length ≤ 4096)
    (h1 : w1.heap[R]? = some (.cells (splice cur Pd.length (P.map byteV)).toArray 5 (0, 0))) (hK : Kept (fun k => k = R) w w1) :
    Wr (w1.setCell ⟨X, 2, none⟩ (.int .i64 ((Pd.length + P.length : Nat) : Int))) X R b v O (Pd ++ P) ∧ Kept (fun k => k = X ∨ k = R) w (w1.setCell ⟨X, 2, none⟩ (.int .i64 ((Pd.length + P.length : Nat) : Int))) := by
  have hK2 := (hK.mono (S' := fun k => k = X ∨ k = R) (fun k hk _ => .inr hk)).trans (Kept.setCell w1 ⟨X, 2, none⟩ (.int .i64 ((Pd.length + P.length : Nat) : Int))) (fun k hk _ => .inl hk)
  have hx2 := Lib.heap_setCell_same (i := 2) (hK.heap h.x h.xr) (.int .i64 ((Pd.length + P.length : Nat) : Int))
  have hfit' : Pd.length + (P.map byteV).length ≤ cur.length := by rw [List.length_map]; omega
  refine ⟨⟨by rw [List.length_append]; exact hx2, ⟨splice cur Pd.length (P.map byteV), ?_, by rw [splice_length _ _ _ hfit']; exact hlen, ?_⟩, by rw [List.length_append]; exact hfit, h.bf.keptS hK2 ?_ ?_, h.xr, h.xb, h.rb, h.vx, h.vr⟩, hK2⟩
  · rw [Below.heap_setCell _ _ _ _ (Ne.symm h.xr)]; exact h1
  · have := splice_take cur Pd.length (P.map byteV) hfit'
    rw [List.length_map] at this
    rw [List.length_append, this, htk, List.map_append]
  · rintro (e | e)
    · exact h.xb e.symm
    · exact h.rb e.symm
  · rintro k hk (e | e)
    · exact h.vx (by rw [hk, e])
    · exact h.vr (by rw [hk, e])

set_option maxRecDepth 100000 in
set_option maxHeartbeats 4000000 in
theorem writeString_any (w : World) (X R b : Nat) (v : Value) (O : List UInt8) (s : ByteArray) (h : Wr w X R b v O []) (hs : s.size ≤ 4096) :
    Calls Tryd.prog 23 #[.pointer (some ⟨X, 0, none⟩), .string s] w fun e w' => (∃ q, e = .returned q) ∧ Wr w' X R b v O s.data.toList ∧ Kept (fun k => k = X ∨ k = R) w w' := by
  obtain ⟨cur, r1, r2, r3⟩ := h.r
  have h' := hide h
  have hsz : s.data.toList.length = s.size := by rw [Array.length_toList]; rfl
  have HA : Hid (∀ m, Calls Tryd.prog 27 #[.pointer (some ⟨X, 0, none⟩)] (w.drewN m) fun e w' => e = .returned (.int .i64 4096) ∧ ∃ n, w' = w.drewN n) := fun m => by
    refine (avail_any (w.drewN m) X R b v O [] (h.drew m)).mono ?_
    rintro e w' ⟨rfl, n, rfl⟩
    exact ⟨rfl, m + n, by simp [World.drewN_drewN]⟩
  obtain ⟨c0, c1, c2, c3⟩ := h.cells
  simp only [List.length_nil] at c2
  have r1' := hide r1
  have hfit : Hid (0 + s.size ≤ cur.length) := by rw [Hid, r2]; omega
  clear h r1 c3
  go_enter Tryd.func23, Tryd.ntmps23
  go_wp2
  go_loopw [1, 8] (fun sv nv wr => sv = .string s ∧ nv = .int .i64 0 ∧ ∃ k, wr = w.drewN k) (fun _ _ _ => 0)
  case atStart => exact ⟨rfl, rfl, 0, rfl⟩
  case round =>
    obtain ⟨rfl, rfl, k, rfl⟩ := hrel
    go_wp2_with fail
    refine (unhide HA k).mono ?_
    rintro e w' ⟨rfl, k2, hw⟩
    subst hw
    go_upto_region 17 with fail
    go_cut [10] from 93 to 103 (fun nv wx => nv = .int .i64 s.size ∧ wx.heap[R]? = some (.cells (splice cur 0 (s.data.toList.map byteV)).toArray 5 (0, 0)) ∧ Kept (fun j => j = R) w wx)
    case first =>
      go_region_law (refine step_copyS rfl (.tmp 101) (.tmp 102) rfl R 0 4096 4096 (by simp [Act.eval, Act.put] <;> rfl) s (by simp [Act.eval, Act.put] <;> rfl) cur (by exact unhide r1') hs (unhide hfit) ?_; intro w2 hg2 hf2)
      all_goals
        have hf2' : Hid (Kept (fun j => j = R) w w2) := ⟨(unhide hf2).os, (unhide hf2).tape, (unhide hf2).output, (unhide hf2).size, (unhide hf2).block⟩
        clear hf2
        go_wp2
        go_meet
        case rel => exact ⟨rfl, unhide hg2, unhide hf2'⟩
    case rest =>
      obtain ⟨rfl, k1, k2⟩ := hcut
      have hput := (unhide h').put r2 r3 s.data.toList (by rw [hsz]; simpa using hs) k1 k2
      rw [hsz] at hput
      have hx3 := k2.heap (unhide h').x (unhide h').xr
      have d2 : wc.cell? ⟨X, 2, none⟩ = some (.int .i64 0) := by rw [Lib.cell_of_heap hx3]; rfl
      have f2 : wc.frozen? ⟨X, 2, none⟩ = false := Lib.frozen_of_heap hx3 2
      have hput' := hide hput
      clear hput k1 k2 hx3 c0 c1 c2 HA h' r1'
      simp only [List.length_nil, Nat.zero_add, List.nil_append] at hput'
      go_wp2
      go_ret2
      exact ⟨⟨_, rfl⟩, unhide hput'⟩

end Go.Proofs.Qxb6614069aDoor
