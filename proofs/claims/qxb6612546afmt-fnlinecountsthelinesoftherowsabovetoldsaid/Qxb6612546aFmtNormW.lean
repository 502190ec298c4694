import Derived.Test.Qxb6612546aFmtNorm
import Derived.Deep.CutRange
import Derived.Deep.Cut
namespace Go.Proofs.Qxb6612546aFmt
open Go.RowKit

theorem byte_ne (c d : UInt8) (h : ¬ ((c.toNat : Int) = (d.toNat : Int))) : c ≠ d := by
  rintro rfl; exact h rfl

theorem byte_eq (c d : UInt8) (h : (c.toNat : Int) = (d.toNat : Int)) : c = d := by
  have : c.toNat = d.toNat := by exact_mod_cast h
  exact UInt8.toNat_inj.1 this

/-- The end of what is read. -/
def NEnd (s : ByteArray) (n : Nat) : Prop :=
  n = s.size ∧ (s.size = 0 ∨ ∀ h : s.size - 1 < s.size, s[s.size - 1] ≠ 13) ∨ (0 < s.size ∧ n = s.size - 1 ∧ ∀ h : s.size - 1 < s.size, s[s.size - 1] = 13)

theorem NEnd.le {s : ByteArray} {n : Nat} (h : NEnd s n) : n ≤ s.size := by
  rcases h with ⟨h, _⟩ | ⟨_, h, _⟩ <;> omega

theorem NEnd.done {s : ByteArray} {n : Nat} (h : NEnd s n) : Cs.norm (s.data.toList.drop n) = [] := by
  rcases h with ⟨rfl, _⟩ | ⟨h0, rfl, h1⟩
  · rw [drop_end s _ (Nat.le_refl _)]; rfl
  · rw [drop_byte s _ (by omega), drop_end s _ (by omega), h1 (by omega)]; rfl


set_option maxRecDepth 100000 in
set_option maxHeartbeats 1000000 in
theorem normalize_any (s : ByteArray) (w : World) (hs : s.size ≤ 1048576) : Calls Tryf.prog 11 #[.string s] w (NormPost s w) := by
  obtain ⟨i0, hi, hz0, hz1, hz2⟩ := info_parts Tryf.info5
  go_enter Tryf.func11, Tryf.ntmps11
  go_upto_region 2 with fail
  go_cut [16] from 8 (fun b wr => wr = w ∧ ((b = .bool false ∧ NEnd s s.size) ∨ (b = .bool true ∧ ∃ m, s.size = m + 1 ∧ NEnd s m)))
  case first =>
    by_cases h0 : s.size = 0
    · go_wp2
      go_meet
      case rel => exact ⟨rfl, .inl ⟨by simp, .inl ⟨rfl, .inl h0⟩⟩⟩
    · obtain ⟨m, hm⟩ : ∃ m, s.size = m + 1 := ⟨s.size - 1, by omega⟩
      have hix : m < s.size := by omega
      have hmm := hide hm
      clear h0 hm
      have hsub : ((s.size : Int) - 1) = (m : Int) := by have := unhide hmm; omega
      have hp : (0 : Int) < s.size := by omega
      by_cases h13 : s[m] = 13
      · go_wp2
        go_meet
        case rel =>
          refine ⟨rfl, .inr ⟨rfl, m, unhide hmm, .inr ⟨by omega, by have := unhide hmm; omega, fun _ => ?_⟩⟩⟩
          have e : s.size - 1 = m := by have := unhide hmm; omega
          simp only [e]; exact h13
      · have h13' : ¬ ((s[m].toNat : Int) = 13) := fun e => h13 (byte_eq _ 13 e)
        go_wp2
        go_meet
        case rel =>
          refine ⟨rfl, .inl ⟨by simp [h13'], .inl ⟨rfl, .inr fun _ => ?_⟩⟩⟩
          have e : s.size - 1 = m := by have := unhide hmm; omega
          simp only [e]; exact h13
  case rest =>
   obtain ⟨hw, hb⟩ := hcut
   replace hw := hw.symm
   subst hw
   have hb' := hide hb
   clear hb
   go_upto_if 16 with fail
   go_cut [3] from 8 (fun v wr => ∃ n : Nat, v = .int .i64 n ∧ wr = w ∧ NEnd s n)
   case first =>
    rcases unhide hb' with ⟨rfl, hn⟩ | ⟨rfl, m, hm, hn⟩
    · have hn' := hide hn
      clear hb' hn
      go_wp2
      go_meet
      case rel => exact ⟨s.size, rfl, rfl, unhide hn'⟩
    · have hn' := hide hn
      have hsub : ((s.size : Int) - 1) = (m : Int) := by omega
      have hmm := hide hm
      clear hb' hn hm
      go_wp2
      go_meet
      case rel => exact ⟨m, by go_num, rfl, unhide hn'⟩
   case rest =>
    clear hb'
    obtain ⟨n, rfl, hw, hn⟩ := hcut
    replace hw := hw.symm
    subst hw
    have hle := hn.le
    have hn' := hide hn
    clear hn
    have hb2 : i0.bytes * n ≤ 281474976710656 := by rw [hz2]; omega
    have hmx : n ≤ maxLen := by unfold maxLen; omega
    go_wp2_with (at_make; refine wpList_make_own _ rfl _ _ 29 rfl w.heap.size 5 i0 (.int .u8 0) 1 Tryf.underlying29 hi hz0 hz1 _ _ _ n rfl rfl rfl hb2 hmx (Nat.le_refl _) ?_)
    intro w1 hown hgrow
    have hrel0 : Hid (OwnRel w (.slice (some ⟨w.heap.size, 0, none⟩) 0 n) [] w1) := ⟨hown, (Below.refl _ w).grown hgrow (Nat.le_refl _) (by simp)⟩
    clear hown hgrow hb2 hmx
    go_wp2
    go_loopw [4, 5] (fun v i wr => ∃ (k : Nat) (l : List UInt8), k ≤ n ∧ i = .int .i64 k ∧ l.length ≤ k ∧ OwnRel w v l wr ∧ Hid (Cs.norm s.data.toList = l ++ Cs.norm (s.data.toList.drop k))) (fun _ i _ => n - (intOf i).toNat)
    case atStart => exact ⟨0, [], Nat.zero_le _, rfl, by simp, unhide hrel0, by simp [Hid]⟩
    case round =>
      obtain ⟨k, l, hk, rfl, hl, hR, hv⟩ := hrel
      clear hrel0
      by_cases hlt : k < n
      · have hks : k < s.size := by omega
        have hR' := hide hR
        have hbase := hR.2.size
        clear hR
        have hst := hide (norm_step s n k (unhide hn') hlt hks)
        have hsk := hide (norm_skip s k)
        go_upto_region 8 with fail
        go_cut [42] from 26 to 42 (fun b wx => wx = wr ∧ ((b = .bool false ∧ Cs.norm (s.data.toList.drop k) = s[k] :: Cs.norm (s.data.toList.drop (k + 1))) ∨ (b = .bool true ∧ Cs.norm (s.data.toList.drop k) = Cs.norm (s.data.toList.drop (k + 1)))))
        case first =>
          by_cases h13 : s[k] = 13
          · by_cases hlt2 : k + 1 < n
            · have hks2 : k + 1 < s.size := by omega
              by_cases h10 : s[k + 1] = 10
              · have hr := hide (unhide hsk hks2 h13 h10)
                clear hst hsk hv
                go_wp2
                go_meet
                case rel => exact ⟨rfl, .inr ⟨by simp, unhide hr⟩⟩
              · have hr := hide (unhide hst (.inr (.inr fun _ => h10)))
                have h10' : ¬ ((s[k + 1].toNat : Int) = 10) := fun e => h10 (byte_eq _ 10 e)
                clear hst hsk hv
                go_wp2
                go_meet
                case rel => exact ⟨rfl, .inl ⟨by simp [h10'], unhide hr⟩⟩
            · have hr := hide (unhide hst (.inr (.inl (by omega))))
              clear hst hsk hv
              go_wp2
              go_meet
              case rel => exact ⟨rfl, .inl ⟨by simp, unhide hr⟩⟩
          · have hr := hide (unhide hst (.inl h13))
            have h13' : ¬ ((s[k].toNat : Int) = 13) := fun e => h13 (byte_eq _ 13 e)
            clear hst hsk hv
            go_wp2
            go_meet
            case rel => exact ⟨rfl, .inl ⟨by simp, unhide hr⟩⟩
        case rest =>
          obtain ⟨hw, hb⟩ := hcut
          replace hw := hw.symm
          subst hw
          clear hst hsk
          rcases hb with ⟨rfl, hb⟩ | ⟨rfl, hb⟩
          · have hv2 : Hid (Cs.norm s.data.toList = (l ++ [s[k]]) ++ Cs.norm (s.data.toList.drop (k + 1))) := by
              rw [Hid, unhide hv, hb]; simp
            clear hv hb
            have hx1 : l.length + 1 ≤ maxLen := by unfold maxLen; omega
            go_wp2_with (at_builtin; refine wpList_append_where _ rfl _ _ 29 rfl w.heap.size 5 i0 (.int .u8 0) 1 1 Tryf.underlying29 hi hz0 hz1 hz2 rfl (by decide) _ l.length _ rfl ((unhide hR').1.alloc _) ⟨wr.heap.size, 0, none⟩ 1 1 [byteV s[k]] rfl rfl (cell_one_new _ _ _) (by simp [Value.oneCell', byteV]) hx1 (by omega) (by simp; omega) ?_)
            intro v2 w2 hown hgrow _ _
            have hR2 := hide (OwnRel.step s[k] _ (unhide hR') hown hgrow)
            clear hown hgrow
            go_wp2
            go_roundw
            case rel => exact ⟨k + 1, _, by omega, by go_num, by simp; omega, unhide hR2, hv2⟩
            case measure => simp [intOf]; omega
          · have hv2 : Hid (Cs.norm s.data.toList = l ++ Cs.norm (s.data.toList.drop (k + 1))) := by
              rw [Hid, unhide hv, hb]
            clear hv hb
            go_wp2
            go_roundw
            case rel => exact ⟨k + 1, l, by omega, by go_num, by omega, unhide hR', hv2⟩
            case measure => simp [intOf]; omega
      · have hfin : Cs.norm s.data.toList = l := by
          rw [unhide hv, show k = n by omega, NEnd.done (unhide hn')]; simp
        have hR' := hide (show OwnRel w u4 (Cs.norm s.data.toList) wr by rw [hfin]; exact hR)
        clear hv hR hfin
        go_wp2
        go_ret
        exact ⟨_, rfl, unhide hR'⟩
end Go.Proofs.Qxb6612546aFmt
