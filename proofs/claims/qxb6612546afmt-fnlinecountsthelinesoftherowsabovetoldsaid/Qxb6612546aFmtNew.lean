import Derived.Test.Qxb6612546aFmtNewP
namespace Go.Proofs.Qxb6612546aFmt
open Go.RowKit Go.Extern.Stop Go.Stop Go.Extern

theorem mem_take_succ {xs : List ByteArray} {i : Nat} {a : ByteArray} (h : xs[i]? = some a) (t : ByteArray) : t ∈ xs.take (i + 1) ↔ t = a ∨ t ∈ xs.take i := by
  obtain ⟨hi, rfl⟩ := List.getElem?_eq_some_iff.1 h
  rw [List.take_succ_eq_append_getElem hi, List.mem_append, List.mem_singleton, or_comm]

theorem below_set {B b : Nat} {w0 w w' : World} (hB : Below B w0 w) (hB' : B ≤ w.heap.size) (hg : w.grownBy w' (some b)) (hb : B ≤ b) : Below B w0 w' :=
  hB.grown hg hB' (fun k hk => by simp at hk; omega)

theorem nodup_take_succ {hdr : List ByteArray} {n : ByteArray} {i : Nat} (h : hdr[i]? = some n) (h1 : ¬ n ∈ hdr.take i) (h2 : (hdr.take i).Nodup) : (hdr.take (i + 1)).Nodup := by
  obtain ⟨hi, rfl⟩ := List.getElem?_eq_some_iff.1 h
  rw [List.take_succ_eq_append_getElem hi]
  refine List.nodup_append.2 ⟨h2, by simp, fun a ha b hb e => ?_⟩
  simp at hb
  subst hb
  subst e
  exact h1 ha

theorem hdr_sizes {K : Nat} {x : List (List UInt8)} (h : ∀ f ∈ x, f.length ≤ K) : ∀ t ∈ hdrOf (strsOf x), t.size ≤ K := by
  intro t ht
  cases x with
  | nil => simp [strsOf, hdrOf] at ht
  | cons f r =>
    simp only [strsOf, List.map_cons, hdrOf, List.mem_cons, List.mem_map] at ht
    rcases ht with rfl | ⟨g, hg, rfl⟩
    · exact Nat.le_trans (trimB_size _) (h f (by simp))
    · exact h g (by simp [hg])

/-- The known names and the index, while the header is read. -/
structure Hd (w2 : World) (b b2 n k : Nat) (req opt hdr : List ByteArray) (wr : World) : Prop where
  bel : Below w2.heap.size w2 wr
  lt : w2.heap.size ≤ b ∧ b < b2 ∧ b2 < wr.heap.size
  known : ∃ ys, SetB wr b n ys ∧ ∀ t, t ∈ ys ↔ t ∈ req ∨ t ∈ opt
  index : ∃ zs, SetI wr b2 k zs ∧ ∀ t, t ∈ zs ↔ t ∈ hdr.take k
  nodup : (hdr.take k).Nodup
  decl : ∀ t ∈ hdr.take k, t ∈ req ∨ t ∈ opt

theorem Hd.look {w2 : World} {b b2 n k : Nat} {req opt hdr : List ByteArray} {wr : World} (h : Hd w2 b b2 n k req opt hdr wr) (x : ByteArray) (hx : x.size ≤ 4194304) :
    ∃ q : Bool, (q = true ↔ x ∈ req ∨ x ∈ opt) ∧ (Instr.lookup 56 (.map (some b)) (.string x) false).run Tryf.prog wr = .ok (.bool q) wr := by
  obtain ⟨ys, h1, h2⟩ := h.known
  exact ⟨isIn x ys, by rw [isIn_iff, h2], h1.look x (by unfold maxLen; omega)⟩

theorem Hd.look2 {w2 : World} {b b2 n k : Nat} {req opt hdr : List ByteArray} {wr : World} (h : Hd w2 b b2 n k req opt hdr wr) (x : ByteArray) (hx : x.size ≤ 4194304) :
    ∃ (q : Bool) (c : Int), (q = true ↔ x ∈ hdr.take k) ∧ (Instr.lookup 57 (.map (some b2)) (.string x) true).run Tryf.prog wr = .ok (.tuple #[.int .i64 c, .bool q]) wr := by
  obtain ⟨zs, h1, h2⟩ := h.index
  obtain ⟨c, hc⟩ := h1.look x (by unfold maxLen; omega)
  exact ⟨isIn x zs, c, by rw [isIn_iff, h2], hc⟩

theorem Hd.step {w2 : World} {b b2 n k : Nat} {req opt hdr : List ByteArray} {wr : World} (h : Hd w2 b b2 n k req opt hdr wr) (x : ByteArray) (hx : x.size ≤ 4194304) (hk : k ≤ 4194305) (hat : hdr[k]? = some x) (h1 : x ∈ req ∨ x ∈ opt) (h2 : ¬ x ∈ hdr.take k) :
    ∃ w', (Instr.mapUpdate 57 (.map (some b2)) (.string x) (.int .i64 k)).run Tryf.prog wr = .ok () w' ∧ Hd w2 b b2 n (k + 1) req opt hdr w' := by
  obtain ⟨zs, h3, h4⟩ := h.index
  obtain ⟨ys, h5, h6⟩ := h.known
  obtain ⟨w', hr, hs, hg⟩ := h3.update x k (by omega) (by unfold maxLen; omega) (by unfold maxLen; omega)
  have hlt := h.lt
  have hgs := hg.size
  refine ⟨w', hr, h.bel.grown hg h.bel.size (fun q hq => by simp at hq; omega), ⟨hlt.1, hlt.2.1, by omega⟩, ⟨ys, h5.kept hg (fun e => by simp at e; omega), h6⟩, ⟨_, hs, fun t => ?_⟩, nodup_take_succ hat h2 h.nodup, fun t ht => ?_⟩
  · rw [List.mem_cons, mem_take_succ hat, h4]
  · rcases (mem_take_succ hat t).1 ht with rfl | ht
    · exact h1
    · exact h.decl t ht

theorem not_acc_unknown {hdr req opt : List ByteArray} {n : ByteArray} {i : Nat} (h : hdr[i]? = some n) (h1 : ¬ n ∈ req) (h2 : ¬ n ∈ opt) : ¬ Acc hdr req opt := fun ha => by
  rcases ha.1 n (List.mem_of_getElem? h) with h3 | h3
  · exact h1 h3
  · exact h2 h3

theorem not_acc_twice {hdr req opt : List ByteArray} {n : ByteArray} {i : Nat} (h : hdr[i]? = some n) (h1 : n ∈ hdr.take i) : ¬ Acc hdr req opt := fun ha => by
  obtain ⟨j, hj⟩ := List.getElem?_of_mem h1
  have hji : j < i := by
    have := (List.getElem?_eq_some_iff.1 hj).1
    simp at this; omega
  rw [List.getElem?_take_of_lt hji] at hj
  obtain ⟨q1, e1⟩ := List.getElem?_eq_some_iff.1 hj
  obtain ⟨q2, e2⟩ := List.getElem?_eq_some_iff.1 h
  have := (List.pairwise_iff_getElem.1 ha.2.1) j i q1 q2 hji
  exact this (by rw [e1, e2])

set_option maxRecDepth 100000 in
set_option maxHeartbeats 4000000 in
theorem new_any (F : Interp) (N : Nat) (s : ByteArray) (req opt : List ByteArray) (a1 a2 : Option Addr) (n1 n2 c1 c2 : Nat) (ea fa : Addr) (w : World) (hF : F.answers w.tape) (hN : w.heap.size = N + 1) (hs : s.size ≤ 4194304)
    (h0 : w.heap[N]? = some (.cells #[.string s, .int .i64 0, .int .i64 (-1)] 78 (0, 0))) (hE : ∀ wr, Below N w wr → Env wr N ea fa)
    (h1 : ∀ wr, Below N w wr → StrS wr (.slice a1 n1 c1) req) (h2 : ∀ wr, Below N w wr → StrS wr (.slice a2 n2 c2) opt) (hl : n1 + n2 ≤ 4194304) (hz : ∀ t, t ∈ req ∨ t ∈ opt → t.size ≤ 4194304) :
    Calls Tryf.prog 33 #[.iface 52 (.pointer (some ⟨N, 0, none⟩)), .slice a1 n1 c1, .slice a2 n2 c2] w (NewPost N s req opt ea w) := by
  have HC := hide (newCsv_any N s w hN hs h0)
  have hE' := hide hE
  have h1' := hide h1
  have h2' := hide h2
  have hz' := hide hz
  have hF' := hide hF
  have hs' := hide hs
  clear h0 hE h1 h2 hz hF hs
  go_enter Tryf.func33, Tryf.ntmps33
  go_wp2_with fail
  refine (unhide HC).mono ?_
  rintro en w1 ⟨rfl, hb1, hn1, hbuf, hcsv⟩
  have kc : w1.cell? ⟨N + 3, 5, none⟩ = some (.bool false) := by rw [cell_of_row w1 _ _ _ _ _ hcsv]; rfl
  have kf : w1.frozen? ⟨N + 3, 5, none⟩ = false := frozen_of_row w1 _ _ _ _ hcsv
  have hfs := fr_setCell w1 (N + 3) 5 (.bool true)
  have hcsv2 : Csv (w1.setCell ⟨N + 3, 5, none⟩ (.bool true)) N 0 (0 : Nat) 0 (.slice none 0 0) (.slice none 0 0) (.slice none 0 0) (.slice none 0 0) (.slice none 0 0) := ⟨by rw [heap_setCell_same w1 _ _ _ _ _ hcsv]; rfl⟩
  have hbuf2 := hbuf.fr hfs (fun k hk => by simp [BufS] at hk; omega)
  have hbN : Below N w (w1.setCell ⟨N + 3, 5, none⟩ (.bool true)) := (hb1.mono (by omega)).setCell (by show N ≤ N + 3; omega) _
  have HR := hide (read_any N s s.data.toList ea fa 0 0 _ _ _ _ none 0 0 _ (r0_start (ea := ea) hbuf2 hcsv2) (unhide hE' _ hbN) (by omega) (by omega))
  have hbN' := hide hbN
  have hsz2 : N + 4 ≤ (w1.setCell ⟨N + 3, 5, none⟩ (.bool true)).heap.size := by simp [World.setCell]; omega
  have hsz2' := hide hsz2
  clear HC hb1 hbuf hcsv hfs hcsv2 hbuf2 hbN hsz2
  go_wp2_with fail
  refine (unhide HR).mono ?_
  intro en w2 hp
  obtain ⟨aD, kD, cD, ev, rfl, hB2, hg2, hcs⟩ := hd_of_read (unhide hsz2') hp
  have hBw : Below N w w2 := (unhide hbN').trans hB2
  have hN2 : N + 4 ≤ w2.heap.size := Nat.le_trans (unhide hsz2') hg2
  have hglob := (unhide hE' w2 hBw).glob.eof
  have hBw' := hide hBw
  clear HR kc kf hn1 hbN' hsz2' hp hB2 hg2 hBw
  rcases hcs with ⟨hm, rfl⟩ | ⟨hm, p, rfl⟩ | ⟨x, st, P', nl', raw', rec', fi', fp', cells, hm, hx, hR, hS, hfp, hc0, hnl, rfl⟩
  · have hm' := hide hm
    have hq := eql_same w2 ea
    have HX := hide (fun s => errNew s w2)
    clear hm
    go_wp2_with fail
    refine (unhide HX _).mono ?_
    rintro en w3 ⟨p, rfl, hb3⟩
    have hb3' := hide hb3
    clear HX hb3
    go_wp2
    go_ret2
    exact ⟨(unhide hBw').trans ((unhide hb3').mono (by omega)), .inl ⟨fun x st rest h => (by rw [unhide hm'] at h; cases h), _, _, rfl⟩⟩
  · have hm' := hide hm
    have hq := eql_types w2 (.pointer (some p)) (.pointer (some ea))
    clear hm
    go_wp2
    go_ret2
    exact ⟨unhide hBw', .inl ⟨fun x st rest h => (by rw [unhide hm'] at h; cases h), _, _, rfl⟩⟩
  · have hq := eql_nil w2 ea
    have hlen1 := ((unhide h1' w2 (unhide hBw'))).some_cases.1
    have hlen2 := ((unhide h2' w2 (unhide hBw'))).some_cases.1
    have hlenD := hS.some_cases.1
    have hbig : x.length ≤ 4194305 := by
      have := Cs.mach_len (Cs.norm s.data.toList) 4 [] [] 0 1 (x, st) (by rw [hm]; simp)
      have := Cs.norm_len s.data.toList
      have := unhide hs'
      have e : s.data.toList.length = s.size := by simp
      simp at *
      omega
    have hfl : ∀ t ∈ hdrOf (strsOf x), t.size ≤ 4194304 := hdr_sizes (Cs.mach_size 4194304 (Cs.norm s.data.toList) 4 [] [] 0 1 (by
      have := Cs.norm_len s.data.toList
      have := unhide hs'
      have e : s.data.toList.length = s.size := by simp
      simp at *
      omega) (by simp) (x, st) (by rw [hm]; simp))
    have hkD : kD = x.length := by rw [← hlenD]; simp [strsOf]
    subst hkD
    have hm' := hide hm
    have hR' := hide hR
    have hS' := hide hS
    have hfp' := hide hfp
    have hc0' := hide hc0
    have hnl' := hide hnl
    have hlen1' := hide hlen1
    have hlen2' := hide hlen2
    have hlenD' := hide hlenD
    have hfl' := hide hfl
    clear hm hR hS hfp hc0 hnl hlen1 hlen2 hlenD hfl
    have hmk := make56 (n1 + n2) w2
    rw [Int.natCast_add] at hmk
    go_wp2
    clear hmk hq
    go_loopw [50] (fun iv wr => ∃ (i : Nat) (ys : List ByteArray), i ≤ n1 ∧ iv = .int .i64 i ∧ Below w2.heap.size w2 wr ∧ w2.heap.size < wr.heap.size ∧ SetB wr w2.heap.size i ys ∧ ∀ t, t ∈ ys ↔ t ∈ req.take i) (fun iv _ => n1 - (intOf iv).toNat)
    case atStart => exact ⟨0, [], Nat.zero_le _, rfl, (Below.refl _ w2).alloc (Nat.le_refl _) _, by rw [size_alloc]; omega, SetB.made w2, by simp⟩
    case round =>
      obtain ⟨i, ys, hin, rfl, hbel, hszr, hset, hys⟩ := hrel
      have hBr : Below N w wr := (unhide hBw').trans (hbel.mono (by omega))
      by_cases hlt : i < n1
      · obtain ⟨t, hx1⟩ : ∃ t, req[i]? = some t := ⟨req[i]'(by have := unhide hlen1'; omega), by simp⟩
        obtain ⟨b1, o1, rfl, cx⟩ := (unhide h1' wr hBr).some_cases.2.2.2 i t hx1
        obtain ⟨w3, hup, hset3, hg3⟩ := hset.update t (by have := unhide hz' t (.inl (List.mem_of_getElem? hx1)); unfold maxLen; omega) (by unfold maxLen; omega)
        have hrl : Hid (Below w2.heap.size w2 w3 ∧ w2.heap.size < w3.heap.size ∧ SetB w3 w2.heap.size (i + 1) (t :: ys) ∧ ∀ q, q ∈ t :: ys ↔ q ∈ req.take (i + 1)) :=
          ⟨below_set hbel hbel.size hg3 (Nat.le_refl _), Nat.lt_of_lt_of_le hszr hg3.size, hset3, fun q => by rw [List.mem_cons, mem_take_succ hx1, hys]⟩
        clear hBr hbel hset hys hset3 hg3 hx1
        go_wp2
        go_roundw
        case rel => exact ⟨i + 1, _, by omega, by go_num, (unhide hrl).1, (unhide hrl).2.1, (unhide hrl).2.2.1, (unhide hrl).2.2.2⟩
        case measure => simp [intOf]; omega
      · have hin1 : i = n1 := by omega
        subst hin1
        have hS1 : Hid (Below w2.heap.size w2 wr ∧ w2.heap.size < wr.heap.size ∧ ∃ ys, SetB wr w2.heap.size i ys ∧ ∀ t, t ∈ ys ↔ t ∈ req) := ⟨hbel, hszr, ys, hset, fun t => by rw [hys, List.take_of_length_le (by have := unhide hlen1'; omega)]⟩
        clear hBr hbel hset hys hszr
        go_wp2
        go_loopw [59] (fun iv wr => ∃ (j : Nat) (ys : List ByteArray), j ≤ n2 ∧ iv = .int .i64 j ∧ Below w2.heap.size w2 wr ∧ w2.heap.size < wr.heap.size ∧ SetB wr w2.heap.size (i + j) ys ∧ ∀ t, t ∈ ys ↔ t ∈ req ∨ t ∈ opt.take j) (fun iv _ => n2 - (intOf iv).toNat)
        case atStart =>
          obtain ⟨q1, q2, ys, q3, q4⟩ := unhide hS1
          exact ⟨0, ys, Nat.zero_le _, rfl, q1, q2, q3, fun t => by rw [q4]; simp⟩
        case round =>
          clear hS1
          obtain ⟨j, ys, hjn, rfl, hbel, hszr, hset, hys⟩ := hrel
          have hBr : Below N w wr := (unhide hBw').trans (hbel.mono (by omega))
          by_cases hlt2 : j < n2
          · obtain ⟨t, hx1⟩ : ∃ t, opt[j]? = some t := ⟨opt[j]'(by have := unhide hlen2'; omega), by simp⟩
            obtain ⟨b1, o1, rfl, cx⟩ := (unhide h2' wr hBr).some_cases.2.2.2 j t hx1
            obtain ⟨w3, hup, hset3, hg3⟩ := hset.update t (by have := unhide hz' t (.inr (List.mem_of_getElem? hx1)); unfold maxLen; omega) (by unfold maxLen; omega)
            have hrl : Hid (Below w2.heap.size w2 w3 ∧ w2.heap.size < w3.heap.size ∧ SetB w3 w2.heap.size (i + (j + 1)) (t :: ys) ∧ ∀ q, q ∈ t :: ys ↔ q ∈ req ∨ q ∈ opt.take (j + 1)) :=
              ⟨below_set hbel hbel.size hg3 (Nat.le_refl _), Nat.lt_of_lt_of_le hszr hg3.size, hset3, fun q => by
                rw [List.mem_cons, mem_take_succ hx1, hys]
                constructor
                · rintro (h | h | h)
                  · exact .inr (.inl h)
                  · exact .inl h
                  · exact .inr (.inr h)
                · rintro (h | h | h)
                  · exact .inr (.inl h)
                  · exact .inl h
                  · exact .inr (.inr h)⟩
            clear hBr hbel hset hys hset3 hg3 hx1
            go_wp2
            go_roundw
            case rel => exact ⟨j + 1, _, by omega, by go_num, (unhide hrl).1, (unhide hrl).2.1, (unhide hrl).2.2.1, (unhide hrl).2.2.2⟩
            case measure => simp [intOf]; omega
          · have hjn1 : j = n2 := by omega
            subst hjn1
            obtain ⟨b2, hb2⟩ : ∃ q, q = wr.heap.size := ⟨_, rfl⟩
            have hH0 : Hid (Hd w2 w2.heap.size b2 (i + j) 0 req opt (hdrOf (strsOf x)) (wr.alloc (.map #[] 0))) := by
              have hal : wr.grownBy (wr.alloc (.map #[] 0)) none := ⟨rfl, rfl, rfl, by rw [size_alloc]; omega, fun q hq _ => Below.heap_alloc _ _ _ hq⟩
              refine ⟨hbel.alloc hbel.size _, ⟨Nat.le_refl _, by omega, by rw [size_alloc]; omega⟩, ⟨ys, hset.kept hal (by simp), fun t => by rw [hys, List.take_of_length_le (by have := unhide hlen2'; omega)]⟩, ⟨[], by rw [hb2]; exact SetI.made wr, by simp⟩, by simp, by simp⟩
            have hmk := make57 x.length wr
            rw [← hb2] at hmk
            clear hBr hbel hset hys hszr hb2
            go_wp2
            clear hmk
            go_loopw [71] (fun iv wr => ∃ k : Nat, k ≤ x.length ∧ iv = .int .i64 k ∧ Hd w2 w2.heap.size b2 (i + j) k req opt (hdrOf (strsOf x)) wr) (fun iv _ => x.length - (intOf iv).toNat)
            case atStart => exact ⟨0, Nat.zero_le _, rfl, unhide hH0⟩
            case round =>
              clear hH0
              obtain ⟨k, hkn, rfl, hH⟩ := hrel
              have hBr : Below N w wr := (unhide hBw').trans (hH.bel.mono (by omega))
              have hH' := hide hH
              have hBr' := hide hBr
              have hFr : Hid (F.answers wr.tape) := by rw [Hid, hBr.tape]; exact unhide hF'
              clear hBr
              by_cases hlt3 : k < x.length
              · obtain ⟨t, hx1⟩ : ∃ t, (strsOf x)[k]? = some t := ⟨(strsOf x)[k]'(by have := unhide hlenD'; omega), by simp⟩
                obtain ⟨b3, o3, rfl, cx⟩ := ((unhide hS').below hH.bel).some_cases.2.2.2 k t hx1
                have hx1' := hide hx1
                have HT := hide (fun (s p : ByteArray) => Tryf.strings_TrimPrefix s p wr)
                clear hH hx1
                go_upto_if 77 with fail
                go_cut [18] from 78 to 79 (fun v wx => wx = wr ∧ ∃ nm : ByteArray, v = .string nm ∧ (hdrOf (strsOf x))[k]? = some nm)
                case first =>
                  by_cases hk0 : k = 0
                  · subst hk0
                    have hnm := hide (hdrOf_zero (unhide hx1'))
                    go_wp2_with fail
                    refine (unhide HT _ _).mono ?_
                    rintro en wx ⟨rfl, hw⟩
                    replace hw := hw.symm
                    subst hw
                    clear HT
                    go_wp2
                    go_meet
                    case rel => exact ⟨by first | rfl | simp, _, rfl, unhide hnm⟩
                  · have hnm := hide (hdrOf_succ (unhide hx1') hk0)
                    have hkI : ¬ (k : Int) = 0 := by omega
                    clear HT
                    go_wp2
                    go_meet
                    case rel => exact ⟨by first | rfl | simp, t, rfl, unhide hnm⟩
                case rest =>
                  clear HT
                  obtain ⟨hw, nm, rfl, hnm⟩ := hcut
                  replace hw := hw.symm
                  subst hw
                  have hnms : nm.size ≤ 4194304 := unhide hfl' nm (List.mem_of_getElem? hnm)
                  obtain ⟨q, hq1, hq2⟩ := (unhide hH').look nm hnms
                  have hnm' := hide hnm
                  have hq1' := hide hq1
                  clear hnm hq1
                  cases q with
                  | false =>
                    have hno : Hid (¬ Acc (hdrOf (strsOf x)) req opt) := fun ha => by
                      have := (unhide hq1').2 (ha.1 nm (List.mem_of_getElem? (unhide hnm')))
                      cases this
                    have HX := hide (fun (o : Obj) h0 => errorf0 F wr.heap.size (x0 := nm) (wr.alloc o) (unhide hFr) h0)
                    go_wp2_with fail
                    refine (unhide HX _ (cell_one_new _ _ _ 0 _ rfl)).mono ?_
                    rintro en w5 ⟨p, rfl, hb5⟩
                    have hb5' : Hid (Below N w w5) := (unhide hBr').trans ((((Below.refl wr.heap.size wr).alloc (Nat.le_refl _) _).mono (by have := (unhide hH').bel.size; omega)).trans (hb5.mono (by rw [size_alloc]; have := (unhide hH').bel.size; omega)))
                    clear HX hb5
                    go_wp2
                    go_ret2
                    exact ⟨unhide hb5', .inl ⟨fun x2 st2 rest2 h => by rw [unhide hm'] at h; cases h; exact unhide hno, _, _, rfl⟩⟩
                  | true =>
                    obtain ⟨q2, c2', hr1, hr2⟩ := (unhide hH').look2 nm hnms
                    have hr1' := hide hr1
                    clear hr1
                    cases q2 with
                    | true =>
                      have hno : Hid (¬ Acc (hdrOf (strsOf x)) req opt) := not_acc_twice (unhide hnm') ((unhide hr1').1 rfl)
                      have HX := hide (fun (o : Obj) h0 => errorf1 F wr.heap.size (x0 := nm) (wr.alloc o) (unhide hFr) h0)
                      go_wp2_with fail
                      refine (unhide HX _ (cell_one_new _ _ _ 0 _ rfl)).mono ?_
                      rintro en w5 ⟨p, rfl, hb5⟩
                      have hb5' : Hid (Below N w w5) := (unhide hBr').trans ((((Below.refl wr.heap.size wr).alloc (Nat.le_refl _) _).mono (by have := (unhide hH').bel.size; omega)).trans (hb5.mono (by rw [size_alloc]; have := (unhide hH').bel.size; omega)))
                      clear HX hb5
                      go_wp2
                      go_ret2
                      exact ⟨unhide hb5', .inl ⟨fun x2 st2 rest2 h => by rw [unhide hm'] at h; cases h; exact unhide hno, _, _, rfl⟩⟩
                    | false =>
                      obtain ⟨w5, hup, hH5⟩ := (unhide hH').step nm hnms (by omega) (unhide hnm') ((unhide hq1').1 rfl) (fun h => by have := (unhide hr1').2 h; cases this)
                      have hH5' := hide hH5
                      clear hH5
                      go_wp2
                      go_roundw
                      case rel => exact ⟨k + 1, by omega, by go_num, unhide hH5'⟩
                      case measure => simp [intOf]; omega
              · have hkx : k = x.length := by omega
                subst hkx
                have hfull : (hdrOf (strsOf x)).take x.length = hdrOf (strsOf x) := List.take_of_length_le (by rw [hdrOf_length]; simp [strsOf])
                have hA1 : Hid ((∀ t ∈ hdrOf (strsOf x), t ∈ req ∨ t ∈ opt) ∧ (hdrOf (strsOf x)).Nodup) := ⟨fun t ht => hH.decl t (by rw [hfull]; exact ht), by have := hH.nodup; rw [hfull] at this; exact this⟩
                have hLk : Hid (∀ t : ByteArray, t.size ≤ 4194304 → ∃ (q : Bool) (c : Int), (q = true ↔ t ∈ hdrOf (strsOf x)) ∧ (Instr.lookup 57 (.map (some b2)) (.string t) true).run Tryf.prog wr = .ok (.tuple #[.int .i64 c, .bool q]) wr) := fun t ht => by
                  obtain ⟨q, c, h1, h2⟩ := hH.look2 t ht
                  rw [hfull] at h1
                  exact ⟨q, c, h1, h2⟩
                clear hH hfull
                go_wp2
                go_loopw [105] (fun iv wx => ∃ m : Nat, m ≤ i ∧ iv = .int .i64 m ∧ wx = wr ∧ ∀ t ∈ req.take m, t ∈ hdrOf (strsOf x)) (fun iv _ => i - (intOf iv).toNat)
                case atStart => exact ⟨0, Nat.zero_le _, rfl, rfl, by simp⟩
                case round =>
                  obtain ⟨m, hmi, rfl, hw, hk4⟩ := hrel
                  replace hw := hw.symm
                  subst hw
                  have hk4' := hide hk4
                  clear hk4
                  by_cases hlt4 : m < i
                  · obtain ⟨t, hx1⟩ : ∃ t, req[m]? = some t := ⟨req[m]'(by have := unhide hlen1'; omega), by simp⟩
                    obtain ⟨b3, o3, rfl, cx⟩ := (unhide h1' wr (unhide hBr')).some_cases.2.2.2 m t hx1
                    have hts := unhide hz' t (.inl (List.mem_of_getElem? hx1))
                    obtain ⟨q, c, hq1, hq2⟩ := unhide hLk t hts
                    have hq1' := hide hq1
                    have hx1' := hide hx1
                    clear hq1 hx1
                    cases q with
                    | true =>
                      go_wp2
                      go_roundw
                      case rel => exact ⟨m + 1, by omega, by go_num, by first | rfl | simp, fun u hu => by
                        rcases (mem_take_succ (unhide hx1') u).1 hu with rfl | hu
                        · exact (unhide hq1').1 rfl
                        · exact unhide hk4' u hu⟩
                      case measure => simp [intOf]; omega
                    | false =>
                      have hno : Hid (¬ Acc (hdrOf (strsOf x)) req opt) := fun ha => by
                        have := (unhide hq1').2 (ha.2.2 t (List.mem_of_getElem? (unhide hx1')))
                        cases this
                      have HX := hide (fun (o : Obj) h0 => errorf2 F wr.heap.size (x0 := t) (wr.alloc o) (unhide hFr) h0)
                      go_wp2_with fail
                      refine (unhide HX _ (cell_one_new _ _ _ 0 _ rfl)).mono ?_
                      rintro en w5 ⟨p, rfl, hb5⟩
                      have hb5' : Hid (Below N w w5) := (unhide hBr').trans ((((Below.refl wr.heap.size wr).alloc (Nat.le_refl _) _).mono (by have := (unhide hH').bel.size; omega)).trans (hb5.mono (by rw [size_alloc]; have := (unhide hH').bel.size; omega)))
                      clear HX hb5
                      go_wp2
                      go_ret2
                      exact ⟨unhide hb5', .inl ⟨fun x2 st2 rest2 h => by rw [unhide hm'] at h; cases h; exact unhide hno, _, _, rfl⟩⟩
                  · have hacc : Hid (Acc (hdrOf (strsOf x)) req opt) := ⟨(unhide hA1).1, (unhide hA1).2, fun t ht => unhide hk4' t (by rw [List.take_of_length_le (by have := unhide hlen1'; omega)]; exact ht)⟩
                    clear hLk hk4'
                    go_wp2
                    go_ret2
                    have hb4 := (unhide hH').bel
                    have hbT : ∀ o, Below w2.heap.size w2 (wr.alloc o) := fun o => hb4.alloc hb4.size o
                    have hb4s := hb4.size
                    refine ⟨(unhide hBr').alloc (by omega) _, .inr ⟨x, st, P', nl', wr.heap.size, unhide hm', unhide hacc, unhide hnl', hx, by omega, rfl, raw', rec', fi', fp', aD, x.length, cD, .map (some w2.heap.size), .map (some b2), x.length, cells, ?_⟩⟩
                    refine ⟨(unhide hR').fr (S := fun _ => False) (Fr.of_below (hbT _)) (fun _ _ h => h), heap_alloc_new _ _, by omega, fun v hv hg => ?_, Fr.own (unhide hfp') (Fr.of_below (S := fun _ => False) (hbT _)) (fun _ _ h => h), hx, by omega, unhide hc0'⟩
                    have := ((unhide hR').lies v hv _ hg).2
                    omega
end Go.Proofs.Qxb6612546aFmt
