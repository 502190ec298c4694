import Derived.Test.Qxb6609067aFmtSit
namespace Go.Proofs.Qxb6609067aFmt
open Go.RowKit Go.Extern.Stop Go.Stop Go.Extern

variable {base B : Nat} {line : Int} {kw ar : ByteArray} {x3 x4 x5 : List ByteArray} {b3 b4 b5 nl : Bool} {ps : List (ByteArray × ByteArray)} {vE vF vW vP : Value} {w w' : World}

def lblRes (ar : ByteArray) (ps : List (ByteArray × ByteArray)) (nl : Bool) : List (ByteArray × ByteArray) × Bool × Bool := (ps ++ (readRes ar).1, nl && (readRes ar).1.isEmpty, (readRes ar).2)

set_option maxHeartbeats 1000000 in
theorem readLabel31_sit (F : Interp) (base B : Nat) (line : Int) (kw ar : ByteArray) (x3 x4 x5 : List ByteArray) (b3 b4 b5 nl : Bool) (ps : List (ByteArray × ByteArray)) (vE vF vW vP : Value) (w : World) (h : Sit base B line kw ar x3 x4 x5 b3 b4 b5 ps nl vE vF vW vP w) (har : ar.size ≤ 1048576) (hps : ps.length ≤ 100000000) (hF : F.answers w.tape) :
    Calls Tryf.prog 31 #[.pointer (some ⟨B, 0, none⟩)] w (EnvSit base B line kw ar x3 x4 x5 b3 b4 b5 vE vF vW vP (lblRes ar ps nl) w) := by
  obtain ⟨n, hn⟩ := h.own
  have hl := Sit.len hn
  have hbB : base ≤ w.heap.size := Nat.le_of_lt (Nat.lt_of_le_of_lt h.geB h.lt)
  have H0 := (readPairs_any F B base n line kw ar vE vF vW vP ps w h.inst hn hbB (fun e => (h.sep B e).1 rfl) har (by omega) hF).mono fun e w' hp => EnvPost.of_pairs hp (Below.refl _ _)
  rw [h.nP] at H0
  have H := hide (H0.mono fun e w' hp => EnvPost.sit h hp)
  clear H0 hn hl h hF
  go_enter Tryf.func31, Tryf.ntmps31
  go_wp2_with fail
  refine (unhide H).mono ?_
  rintro e w' ⟨he, hr⟩
  have hr' := hide hr
  clear hr H
  rcases he with ⟨hb, rfl⟩ | ⟨hb, p, rfl⟩
  · have hb' := hide hb
    clear hb
    go_wp2
    go_ret
    exact ⟨.inl ⟨unhide hb', rfl⟩, unhide hr'⟩
  · have hb' := hide hb
    clear hb
    go_wp2
    go_ret
    exact ⟨.inr ⟨unhide hb', _, rfl⟩, unhide hr'⟩

set_option maxHeartbeats 1000000 in
theorem readLabel_sit (F : Interp) (base B : Nat) (line : Int) (kw ar : ByteArray) (x3 x4 x5 : List ByteArray) (b3 b4 b5 nl : Bool) (ps : List (ByteArray × ByteArray)) (vE vF vW vP : Value) (w : World) (h : Sit base B line kw ar x3 x4 x5 b3 b4 b5 ps nl vE vF vW vP w) (har : ar.size ≤ 1048576) (hps : ps.length ≤ 100000000) (hF : F.answers w.tape) :
    Calls Tryf.prog 19 #[.pointer (some ⟨B, 0, none⟩)] w (EnvSit base B line kw ar x3 x4 x5 b3 b4 b5 vE vF vW vP (lblRes ar ps nl) w) := by
  have H := hide (readLabel31_sit F base B line kw ar x3 x4 x5 b3 b4 b5 nl ps vE vF vW vP w h har hps hF)
  clear h hF
  go_enter Tryf.func19, Tryf.ntmps19
  go_wp2_with fail
  refine (unhide H).mono ?_
  rintro e w' ⟨he, hr⟩
  have hr' := hide hr
  clear hr H
  rcases he with ⟨hb, rfl⟩ | ⟨hb, p, rfl⟩
  · have hb' := hide hb
    clear hb
    go_wp2
    go_ret
    exact ⟨.inl ⟨unhide hb', rfl⟩, unhide hr'⟩
  · have hb' := hide hb
    clear hb
    go_wp2
    go_ret
    exact ⟨.inr ⟨unhide hb', _, rfl⟩, unhide hr'⟩

theorem Sit.pairS (h : Sit base B line kw ar x3 x4 x5 b3 b4 b5 ps nl vE vF vW vP w) : PairS w vP ps := by
  obtain ⟨n, hn⟩ := h.own
  have hl := Sit.len hn
  rcases hn.2 with ⟨rfl, h0⟩ | ⟨g, cap, cur, rfl, _⟩
  · have : ps = [] := List.eq_nil_of_length_eq_zero (by omega)
    subst this
    exact ⟨none, 0, rfl, by simp, by simp, by simp⟩
  · exact PairS.own hn

theorem isNil_slice {a : Option Addr} {n c : Nat} : isNilS (.slice a n c) = a.isNone := by cases a <;> rfl

/-- The instruction's slices, written out. -/
theorem Sit.forms (h : Sit base B line kw ar x3 x4 x5 b3 b4 b5 ps nl vE vF vW vP w) : ∃ aE cE aF cF aW cW, vE = .slice aE x3.length cE ∧ vF = .slice aF x4.length cF ∧ vW = .slice aW x5.length cW := by
  obtain ⟨aE, cE, hE⟩ := h.sE.form
  obtain ⟨aF, cF, hF⟩ := h.sF.form
  obtain ⟨aW, cW, hW⟩ := h.sW.form
  exact ⟨aE, cE, aF, cF, aW, cW, hE, hF, hW⟩

theorem PairS.form (h : PairS w vP ps) : ∃ a c, vP = .slice a ps.length c := by
  obtain ⟨a, c, rfl, _⟩ := h
  exact ⟨a, c, rfl⟩

/-- zzSameBut says yes. -/
theorem sit_but {aE aF aW e2 f2 : Option Addr} {cE cF cW c2 d2 : Nat} (h : Sit base B line kw ar x3 x4 x5 e2.isNone f2.isNone b5 ps nl (.slice aE x3.length cE) (.slice aF x4.length cF) (.slice aW x5.length cW) vP w)
    (h3 : StrS w (.slice e2 x3.length c2) x3) (h4 : StrS w (.slice f2 x4.length d2) x4) (n3 : x3.length ≤ 1048576) (n4 : x4.length ≤ 1048576) :
    Calls Tryf.prog 14 #[.pointer (some ⟨B, 0, none⟩), .int .i64 line, .string kw, .string ar, .slice e2 x3.length c2, .slice f2 x4.length d2] w (TruePost w) :=
  sameBut_any B line kw ar aE e2 aF f2 x3.length x4.length cE c2 cF d2 _ vP x3 x4 w h.inst h.sE h3 h.sF h4 n3 n4 (by rw [← h.nE, isNil_slice]) (by rw [← h.nF, isNil_slice])

/-- zzSameStrings says yes of the words. -/
theorem sit_words {aE aF aW f2 : Option Addr} {cE cF cW d2 : Nat} (h : Sit base B line kw ar x3 x4 x5 b3 b4 f2.isNone ps nl (.slice aE x3.length cE) (.slice aF x4.length cF) (.slice aW x5.length cW) vP w)
    (h5 : StrS w (.slice f2 x5.length d2) x5) (n5 : x5.length ≤ 1048576) : Calls Tryf.prog 15 #[.slice aW x5.length cW, .slice f2 x5.length d2] w (TruePost w) :=
  sameStrings_any aW f2 x5.length cW d2 x5 w h.sW h5 n5 (by rw [← h.nW, isNil_slice])

theorem zip_fst (xs ys : List ByteArray) : (zipL xs ys).map Prod.fst = xs := by
  unfold zipL
  rw [List.map_fst_zip]
  rw [padL_length]; exact Nat.le_refl _
theorem zip_snd (xs ys : List ByteArray) : (zipL xs ys).map Prod.snd = padL ys xs.length := by
  unfold zipL
  rw [List.map_snd_zip]
  rw [padL_length]; exact Nat.le_refl _

theorem pairsL_len : ∀ ws : List ByteArray, (pairsL ws).1.length ≤ ws.length := by
  intro ws
  induction ws with
  | nil => exact Nat.le_refl _
  | cons x r ih => rw [pairsL]; split <;> simp; omega

theorem readRes_len (ar : ByteArray) : (readRes ar).1.length ≤ ar.size + 1 := by
  unfold readRes
  split
  · refine Nat.le_trans (pairsL_len _) ?_
    rw [List.length_map]
    exact allW_count ar
  · simp

theorem Sit.fr_below (h : Sit base B line kw ar x3 x4 x5 b3 b4 b5 ps nl vE vF vW vP w) (hfr : Fr (fun k => k = B ∨ vP.ownBlock = some k) w w') : Below base w w' := by
  refine hfr.to_below ?_ (Nat.le_of_lt (Nat.lt_of_le_of_lt h.geB h.lt))
  intro k hk hS
  have h1 := h.geB
  rcases hS with rfl | e
  · omega
  · have := (h.p_lt k e).1; omega

/-- An error value. -/
def ErrV (b : Bool) (v : Value) : Prop := (b = false ∧ v = .nilIface) ∨ (b = true ∧ ∃ p, v = .iface 85 (.pointer (some p)))

theorem ErrIs.val {b : Bool} {e : Ending} (h : ErrIs b e) : ∃ v, e = .returned v ∧ ErrV b v := by
  rcases h with ⟨hb, rfl⟩ | ⟨hb, p, rfl⟩
  · exact ⟨_, rfl, .inl ⟨hb, rfl⟩⟩
  · exact ⟨_, rfl, .inr ⟨hb, p, rfl⟩⟩

theorem ErrV.yes {v : Value} (h : ErrV true v) : ∃ p, v = .iface 85 (.pointer (some p)) := by
  rcases h with ⟨hb, _⟩ | ⟨_, h⟩
  · cases hb
  · exact h
theorem ErrV.no {v : Value} (h : ErrV false v) : v = .nilIface := by
  rcases h with ⟨_, h⟩ | ⟨hb, _⟩
  · exact h
  · cases hb

/-- What the laws come to. -/
def LawPost (W : World) (e : Ending) (w' : World) : Prop := e = .returned (.bool true) ∧ Below W.heap.size W w'
end Go.Proofs.Qxb6609067aFmt
