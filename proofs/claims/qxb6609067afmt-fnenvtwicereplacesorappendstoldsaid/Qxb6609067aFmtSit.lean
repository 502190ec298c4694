import Derived.Test.Qxb6609067aFmtPlainF
import Derived.Test.Qxb6609067aFmtConcat
namespace Go.Proofs.Qxb6609067aFmt
open Go.RowKit Go.Extern.Stop Go.Stop Go.Extern

theorem StrS.keep {S : Nat → Prop} {w w' : World} {v : Value} {xs : List ByteArray} (h : StrS w v xs) (hf : Fr S w w') (hs : xs = [] ∨ ∀ g, v.ownBlock = some g → ¬ S g) : StrS w' v xs := by
  rcases hs with rfl | hs
  · obtain ⟨a, c, rfl, hc, hn, _⟩ := h
    exact ⟨a, c, rfl, hc, hn, fun i s hi => by simp at hi⟩
  · exact h.fr hf hs

theorem StrS.lt {w : World} {v : Value} {xs : List ByteArray} (h : StrS w v xs) (hx : xs ≠ []) {k : Nat} (hk : v.ownBlock = some k) : k < w.heap.size := by
  obtain ⟨a, c, rfl, hc, hn, hcell⟩ := h
  cases xs with
  | nil => exact absurd rfl hx
  | cons x r =>
    obtain ⟨b, o, rfl, hcl⟩ := hcell 0 x rfl
    simp [Value.ownBlock] at hk
    subst hk
    exact World.block_lt_of_cell? w _ hcl

theorem own_lt {w : World} {base e size n : Nat} {v : Value} {xs : List Value} (h : w.ownsRow base e size v n xs) : ∀ g, v.ownBlock = some g → g < w.heap.size := by
  intro g hg
  rcases h.2 with ⟨rfl, _⟩ | ⟨g', cap, cur, rfl, hb, hh, _⟩
  · simp [Value.ownBlock] at hg
  · simp [Value.ownBlock] at hg
    subst hg
    exact (Array.getElem?_eq_some_iff.1 hh).1

def Apart (xs : List ByteArray) (v : Value) (k : Nat) : Prop := xs = [] ∨ v.ownBlock ≠ some k

/-- An instruction of the law's own, with its slices. -/
structure Sit (base B : Nat) (line : Int) (kw ar : ByteArray) (x3 x4 x5 : List ByteArray) (b3 b4 b5 : Bool) (ps : List (ByteArray × ByteArray)) (nl : Bool) (vE vF vW vP : Value) (w : World) : Prop where
  inst : Inst w B line kw ar vE vF vW vP
  geB : base ≤ B
  sE : StrS w vE x3
  sF : StrS w vF x4
  sW : StrS w vW x5
  nE : isNilS vE = b3
  nF : isNilS vF = b4
  nW : isNilS vW = b5
  nP : isNilS vP = nl
  own : ∃ n, w.ownsRow base 48 2 vP n (pairCells ps)
  sep : ∀ k, vP.ownBlock = some k → k ≠ B ∧ Apart x3 vE k ∧ Apart x4 vF k ∧ Apart x5 vW k
  eB : vE.ownBlock ≠ some B
  fB : vF.ownBlock ≠ some B
  wB : vW.ownBlock ≠ some B

variable {base B : Nat} {line : Int} {kw ar : ByteArray} {x3 x4 x5 : List ByteArray} {b3 b4 b5 nl : Bool} {ps : List (ByteArray × ByteArray)} {vE vF vW vP : Value} {w w' : World}

theorem Sit.below (h : Sit base B line kw ar x3 x4 x5 b3 b4 b5 ps nl vE vF vW vP w) (hb : Below w.heap.size w w') : Sit base B line kw ar x3 x4 x5 b3 b4 b5 ps nl vE vF vW vP w' := by
  obtain ⟨n, hn⟩ := h.own
  exact ⟨h.inst.fr (S := fun _ => False) (Fr.of_below hb) (by simp), h.geB, h.sE.below hb, h.sF.below hb, h.sW.below hb, h.nE, h.nF, h.nW, h.nP, ⟨n, ownsRow_below hn hb⟩, h.sep, h.eB, h.fB, h.wB⟩

theorem Sit.lt (h : Sit base B line kw ar x3 x4 x5 b3 b4 b5 ps nl vE vF vW vP w) : B < w.heap.size := h.inst.lt

theorem Sit.p_lt (h : Sit base B line kw ar x3 x4 x5 b3 b4 b5 ps nl vE vF vW vP w) : ∀ g, vP.ownBlock = some g → base ≤ g ∧ g < w.heap.size := by
  obtain ⟨n, hn⟩ := h.own
  exact fun g hg => ⟨own_ge hn g hg, own_lt hn g hg⟩

theorem Sit.of_build {w0 : World} {e : Ending} {b6 : Bool} (h : BuildPost line kw ar x3 x4 x5 b3 b4 b5 b6 ps w0 e w) : ∃ B vE vF vW vP, e = .returned (.pointer (some ⟨B, 0, none⟩)) ∧ Sit w0.heap.size B line kw ar x3 x4 x5 b3 b4 b5 ps b6 vE vF vW vP w ∧ Below w0.heap.size w0 w := by
  obtain ⟨B, vE, vF, vW, vP, he, hB, hI, h1, h2, h3, n1, n2, n3, n4, hown, hb, hsep, e1, e2, e3⟩ := h
  exact ⟨B, vE, vF, vW, vP, he, ⟨hI, hB, h1, h2, h3, n1, n2, n3, n4, hown, fun k hk => ⟨(hsep k hk).1, .inr (hsep k hk).2.1, .inr (hsep k hk).2.2.1, .inr (hsep k hk).2.2.2⟩, e1, e2, e3⟩, hb⟩

/-- What a reading leaves of it. -/
def EnvSit (base B : Nat) (line : Int) (kw ar : ByteArray) (x3 x4 x5 : List ByteArray) (b3 b4 b5 : Bool) (vE vF vW vP : Value) (res : List (ByteArray × ByteArray) × Bool × Bool) (w : World) (e : Ending) (w' : World) : Prop :=
  ErrIs res.2.2 e ∧ ∃ vP', Sit base B line kw ar x3 x4 x5 b3 b4 b5 res.1 res.2.1 vE vF vW vP' w' ∧ Fr (fun k => k = B ∨ vP.ownBlock = some k) w w'

theorem apart_step {xs : List ByteArray} {v : Value} {g : Nat} (h : StrS w v xs) (hg : w.heap.size ≤ g) : Apart xs v g := by
  by_cases hx : xs = []
  · exact .inl hx
  · exact .inr fun hk => by have := h.lt hx hk; omega

theorem apart_keep {xs : List ByteArray} {v : Value} (hB : v.ownBlock ≠ some B) (hs : ∀ k, vP.ownBlock = some k → Apart xs v k) : xs = [] ∨ ∀ g, v.ownBlock = some g → ¬ (g = B ∨ vP.ownBlock = some g) := by
  by_cases hx : xs = []
  · exact .inl hx
  · refine .inr fun g hg hS => ?_
    rcases hS with rfl | e
    · exact hB hg
    · rcases hs g e with h | h
      · exact hx h
      · exact h hg

theorem EnvPost.sit {res : List (ByteArray × ByteArray) × Bool × Bool} {e : Ending} (h : Sit base B line kw ar x3 x4 x5 b3 b4 b5 ps nl vE vF vW vP w) (hp : EnvPost B base line kw ar vE vF vW vP res w e w') :
    EnvSit base B line kw ar x3 x4 x5 b3 b4 b5 vE vF vW vP res w e w' := by
  obtain ⟨he, v, n, hI, hown, hwh, hnil, hfr⟩ := hp
  have hlt := h.lt
  refine ⟨he, v, ⟨hI, h.geB, h.sE.keep hfr (apart_keep h.eB fun k hk => (h.sep k hk).2.1), h.sF.keep hfr (apart_keep h.fB fun k hk => (h.sep k hk).2.2.1), h.sW.keep hfr (apart_keep h.wB fun k hk => (h.sep k hk).2.2.2), h.nE, h.nF, h.nW, hnil, ⟨n, hown⟩, ?_, h.eB, h.fB, h.wB⟩, hfr⟩
  intro k hk
  rcases hwh with e' | ⟨g, e', hg⟩
  · rw [e'] at hk; exact h.sep k hk
  · rw [e'] at hk
    simp at hk
    subst hk
    exact ⟨by omega, apart_step h.sE hg, apart_step h.sF hg, apart_step h.sW hg⟩

theorem Sit.len {n : Nat} (hn : w.ownsRow base 48 2 vP n (pairCells ps)) : n = ps.length := by
  have := hn.1
  rw [pairCells_length] at this
  omega

set_option maxHeartbeats 1000000 in
theorem readEnv_sit (F : Interp) (base B : Nat) (line : Int) (kw ar : ByteArray) (x3 x4 x5 : List ByteArray) (b3 b4 b5 nl : Bool) (ps : List (ByteArray × ByteArray)) (vE vF vW vP : Value) (w : World) (h : Sit base B line kw ar x3 x4 x5 b3 b4 b5 ps nl vE vF vW vP w) (har : ar.size ≤ 1048576) (hps : ps.length ≤ 100000000) (hF : F.answers w.tape) (hE : Env1 w) :
    Calls Tryf.prog 13 #[.pointer (some ⟨B, 0, none⟩)] w (EnvSit base B line kw ar x3 x4 x5 b3 b4 b5 vE vF vW vP (envRes ar ps nl) w) := by
  obtain ⟨n, hn⟩ := h.own
  have hl := Sit.len hn
  have hbB : base ≤ w.heap.size := Nat.le_of_lt (Nat.lt_of_le_of_lt h.geB h.lt)
  have H0 := readEnv_any F B base n line kw ar vE vF vW vP ps w h.inst hn hbB (fun e => (h.sep B e).1 rfl) har (by omega) hF hE
  rw [h.nP] at H0
  have H := hide (H0.mono fun e w' hp => EnvPost.sit h hp)
  clear H0 hn hl h hF hE
  go_enter Tryf.func13, Tryf.ntmps13
  go_wp2_with fail
  refine (unhide H).mono ?_
  rintro e w' ⟨he, hr⟩
  have hr' := hide hr
  clear hr H
  rcases he with ⟨hb, rfl⟩ | ⟨hb, p, rfl⟩
  · have hb' := hide hb
    clear hb
    go_wp2
    go_ret
    exact ⟨.inl ⟨unhide hb', rfl⟩, unhide hr'⟩
  · have hb' := hide hb
    clear hb
    go_wp2
    go_ret
    exact ⟨.inr ⟨unhide hb', _, rfl⟩, unhide hr'⟩
end Go.Proofs.Qxb6609067aFmt
