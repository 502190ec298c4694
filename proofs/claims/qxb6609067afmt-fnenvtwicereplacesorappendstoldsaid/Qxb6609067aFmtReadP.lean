import Derived.Test.Qxb6609067aFmtRP
import Derived.Test.Qxb6609067aFmtLabelM
namespace Go.Proofs.Qxb6609067aFmt
open Go.RowKit Go.Extern.Stop Go.Stop Go.Extern

theorem empty_name (x : ByteArray) (q : Nat) (h0 : 0 < q) (h : q < x.size) : (x.extract 0 q).toList.isEmpty = false := by
  have h1 : (x.extract 0 q).toList.length = q := by
    rw [ByteArray.toList_eq]
    simp
    omega
  cases he : (x.extract 0 q).toList with
  | nil => rw [he] at h1; simp at h1; omega
  | cons a b => rfl

set_option maxRecDepth 100000 in
set_option maxHeartbeats 4000000 in
theorem readPairs_any (F : Interp) (B base n : Nat) (line : Int) (kw ar : ByteArray) (vE vF vW vP : Value) (ps : List (ByteArray × ByteArray)) (w : World) (hI : Inst w B line kw ar vE vF vW vP)
    (hP : w.ownsRow base 48 2 vP n (pairCells ps)) (hbase : base ≤ w.heap.size) (hneB : vP.ownBlock ≠ some B) (har : ar.size ≤ 1048576) (hps : n ≤ 100000000) (hF : F.answers w.tape) :
    Calls Tryf.prog 40 #[.pointer (some ⟨B, 0, none⟩)] w (PairsPost B base line kw ar vE vF vW vP ps (readRes ar) w) := by
  obtain ⟨_, _, i2, _, _, _, _⟩ := hI.cell
  have hB := hI.lt
  have HW := hide (words_any F ar w har hF)
  have hcnt := allW_count ar
  obtain ⟨R, hR0⟩ : ∃ R, R = readRes ar := ⟨_, rfl⟩
  rw [← hR0]
  have hP' := hide hP
  have hI' := hide hI
  have hF' := hide hF
  have hne' := hide hneB
  have hPlt := hide (fun k hk => (hP.lt k hk).2)
  clear hP hI hF hneB
  go_enter Tryf.func40, Tryf.ntmps40
  go_wp2_with fail
  refine (unhide HW).mono ?_
  rintro e w1 ⟨hb, h⟩
  have hb' := hide hb
  have hI1 := hide ((unhide hI').fr (S := fun _ => False) (Fr.of_below hb) (by simp))
  have hP1 := hide (ownsRow_below (unhide hP') hb)
  have hsz := hb.size
  have hF1 : Hid (F.answers w1.tape) := by simp only [Hid]; rw [hb.tape]; exact unhide hF'
  clear HW hb
  rcases h with ⟨hcl, v, rfl, hst, hvo⟩ | ⟨hcl, p, rfl⟩
  · have hL : Hid (R = joinQ [] (pairsL ((allW ar).1.map (seg ar)))) := by rw [hR0, readRes, hcl]; simp [Hid, joinQ]
    obtain ⟨xs, hxs⟩ : ∃ xs, xs = (allW ar).1.map (seg ar) := ⟨_, rfl⟩
    have hxl : xs.length ≤ 1048577 := by rw [hxs]; simp; omega
    have hall : Hid (∀ x ∈ xs, x.size ≤ 1048576) := by
      intro x hx
      rw [hxs] at hx
      obtain ⟨t, _, rfl⟩ := List.mem_map.1 hx
      unfold seg
      rw [ByteArray.size_extract]
      omega
    rw [← hxs] at hst hL
    clear hcl hR0 hxs hcnt
    obtain ⟨a, c, rfl, _⟩ := id hst
    obtain ⟨_, _, _, hc⟩ := hst.some_cases
    have hc' := hide hc
    have hlo := hide hvo
    obtain ⟨i0, hi, hz0, hz1, hz2⟩ := info_parts Tryf.info48
    clear hst hc hvo
    go_wp2
    go_loopw [23] (fun iv wr => ∃ (k : Nat) (v : Value) (outs : List (ByteArray × ByteArray)), k ≤ xs.length ∧ iv = .int .i64 k ∧ outs.length ≤ k ∧ RP B base n line kw ar vE vF vW vP ps w1 v outs wr ∧ Hid (R = joinQ outs (pairsL (xs.drop k)))) (fun iv _ => xs.length - (intOf iv).toNat)
    case atStart =>
      exact ⟨0, vP, [], Nat.zero_le _, rfl, by simp, ⟨unhide hI1, by simpa using unhide hP1, .inl rfl, by simp, Fr.refl _ _⟩, by simpa using hL⟩
    case round =>
      obtain ⟨k, v, outs, hk, rfl, hol, hrp, hv⟩ := hrel
      clear hL
      by_cases hlt : k < xs.length
      · obtain ⟨x, hx⟩ : ∃ x, xs[k]? = some x := ⟨xs[k], by simp [hlt]⟩
        obtain ⟨b, o, he, hcl⟩ := unhide hc' k x hx
        cases he
        have hdr : xs.drop k = x :: xs.drop (k + 1) := by
          obtain ⟨_, rfl⟩ := List.getElem?_eq_some_iff.1 hx
          exact List.drop_eq_getElem_cons hlt
        rw [hdr] at hv
        have hgl := unhide hlo b rfl
        have hcx : wr.cell? ⟨b, o + k, none⟩ = some (.string x) := hrp.fr.cell hcl (by
          rintro (e | e)
          · have : b = B := e; omega
          · have := unhide hPlt b e; omega)
        have hxs := unhide hall x (List.mem_of_getElem? hx)
        have HS := hide (split_any x wr hxs)
        clear hx hcl hdr
        go_wp2_with fail
        refine (unhide HS).mono ?_
        rintro e w2 ⟨⟨m, rfl⟩, h⟩
        rcases h with ⟨hq, rfl⟩ | ⟨q, hq, hqs, rfl⟩
        · have hv' := hide ((unhide hv).trans (joinQ_bad (by omega)))
          have hFr : Hid (F.answers wr.tape) := by simp only [Hid]; rw [hrp.fr.tape]; exact unhide hF1
          have hrp' := hide hrp
          clear hv hrp hq HS
          go_wp2_with fail
          refine (errorf2 F _ _ (by exact unhide hFr) (one_new0 _ _ _)).mono ?_
          rintro e w2 ⟨p, rfl, hbe⟩
          have hbx : Hid (Below wr.heap.size wr w2) := ((bdrew (Below.refl _ wr)).alloc (Nat.le_refl _) _).trans (hbe.mono (by simp))
          clear hbe
          go_wp2
          go_ret
          rw [unhide hv']
          exact (unhide hrp').post (unhide hb') (unhide hbx) (.inr ⟨rfl, _, rfl⟩)
        · have hFr : Hid (F.answers wr.tape) := by simp only [Hid]; rw [hrp.fr.tape]; exact unhide hF1
          by_cases hq0 : q = 0
          · subst hq0
            have hv' := hide ((unhide hv).trans (joinQ_bad (by omega)))
            have hrp' := hide hrp
            have hemp : (x.extract 0 0).toList.isEmpty = true := by rw [ByteArray.toList_eq]; simp
            clear hv hrp hq HS
            go_wp2_with fail
            refine (errorf2 F _ _ (by exact unhide hFr) (one_new0 _ _ _)).mono ?_
            rintro e w2 ⟨p, rfl, hbe⟩
            have hbx : Hid (Below wr.heap.size wr w2) := ((bdrew (Below.refl _ wr)).alloc (Nat.le_refl _) _).trans (hbe.mono (by simp))
            clear hbe
            go_wp2
            go_ret
            rw [unhide hv']
            exact (unhide hrp').post (unhide hb') (unhide hbx) (.inr ⟨rfl, _, rfl⟩)
          · have hv' := hide ((unhide hv).trans (joinQ_step hq (by omega)))
            have hemp := empty_name x q (by omega) hqs
            obtain ⟨_, _, _, _, _, _, i6⟩ := hrp.inst.cell
            have hf6 := hrp.inst.frozen 6
            have hBr := hrp.inst.lt
            have hbr : base ≤ wr.heap.size := by have := hrp.fr.size; omega
            have hx1 : n + outs.length + 1 ≤ maxLen := by unfold maxLen; omega
            clear hv hq HS
            go_wp2_with (at_builtin; refine wpList_append_where _ rfl (.tmp 47) (.tmp 51) 36 rfl base 48 i0 (.agg #[.string ⟨#[]⟩, .string ⟨#[]⟩]) 2 32 Tryf.underlying36 hi hz0 hz1 hz2 rfl (by decide) v (n + outs.length) _ rfl (by exact hrp.own.alloc _) ⟨wr.heap.size, 0, none⟩ 1 1 [.string (x.extract 0 q), .string (x.extract (q + 1) x.size)] rfl rfl (by exact cell_two_new _ _ _ _) (by simp [Value.oneCell']) hx1 (by omega) (by simp; omega) ?_)
            intro v' w2 hown' hgrow' hnil' hwh'
            have hrp2 := hrp.step _ _ (by omega) (unhide hne') hown' hgrow' hnil' (by simpa using hwh')
            obtain ⟨av, nv, cv, rfl⟩ : ∃ a n c, v' = .slice a n c := by
              rcases hown'.2 with ⟨e, _⟩ | ⟨g, cap, cur, e, _⟩
              · exact ⟨_, _, _, e⟩
              · exact ⟨_, _, _, e⟩
            have hf2 := fr_grown hgrow'
            have hvB : v.ownBlock ≠ some B := by
              rcases hrp.wh with e | ⟨g, e, hg⟩
              · rw [e]; exact unhide hne'
              · rw [e]; intro e'; simp at e'; omega
            have hI2 := hrp.inst.fr hf2 hvB
            obtain ⟨_, _, _, _, _, _, j6⟩ := hI2.cell
            have jf6 := hI2.frozen 6
            have hrp3 := hide hrp2
            clear hrp2 hf2 hvB hI2 hown' hgrow' hnil' hwh' hrp i6 hf6 hcx hemp
            go_wp2
            go_roundw
            case rel => exact ⟨k + 1, _, _, by omega, by go_num, by simp; omega, unhide hrp3, hv'⟩
            case measure => simp [intOf]; omega
      · have hv' : Hid (R = (outs, false)) := by
          have := unhide hv
          rw [List.drop_eq_nil_of_le (by omega)] at this
          rw [this]; simp [joinQ, pairsL, Hid]
        have hrp' := hide hrp
        clear hv hrp
        go_wp2
        go_ret
        rw [unhide hv']
        exact (unhide hrp').post (unhide hb') (Below.refl _ _) (.inl ⟨rfl, rfl⟩)
  · have hL : Hid (R = ([], true)) := by rw [hR0, readRes, hcl]; simp [Hid]
    clear hcl hR0
    go_wp2
    go_ret
    rw [unhide hL]
    have hrp : RP B base n line kw ar vE vF vW vP ps w1 vP [] w1 := ⟨unhide hI1, by simpa using unhide hP1, .inl rfl, by simp, Fr.refl _ _⟩
    exact hrp.post (unhide hb') (Below.refl _ _) (.inr ⟨rfl, _, rfl⟩)
end Go.Proofs.Qxb6609067aFmt
