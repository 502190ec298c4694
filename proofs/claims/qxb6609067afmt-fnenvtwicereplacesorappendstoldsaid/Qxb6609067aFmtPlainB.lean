import Derived.Test.Qxb6609067aFmtPlain
namespace Go.Proofs.Qxb6609067aFmt
namespace Pl

theorem sq_take : ∀ (l : List UInt8) (n b : Nat), sq l = some n → n ≤ b → sq (l.take b) = some n := by
  intro l
  induction l with
  | nil => intro n b h _; simp [sq] at h
  | cons c r ih =>
    intro n b h hb
    have hn := (sq_le _ n h).1
    cases b with
    | zero => omega
    | succ b =>
      rw [List.take_succ_cons, sq]
      rw [sq] at h
      split at h
      · rename_i hc; rw [if_pos hc]; exact h
      · rename_i hc
        rw [if_neg hc]
        simp only [Option.map_eq_some_iff] at h ⊢
        obtain ⟨m, hm, rfl⟩ := h
        exact ⟨m, ih m b hm (by omega), rfl⟩

theorem dq_take : ∀ (l : List UInt8) (esc : Bool) (n b : Nat), dq esc l = some n → n ≤ b → dq esc (l.take b) = some n := by
  intro l
  induction l with
  | nil => intro esc n b h _; simp [dq] at h
  | cons c r ih =>
    intro esc n b h hb
    have hn := (dq_le _ _ n h).1
    cases b with
    | zero => omega
    | succ b =>
      have key : ∀ e, (dq e r).map (· + 1) = some n → (dq e (r.take b)).map (· + 1) = some n := by
        intro e he
        simp only [Option.map_eq_some_iff] at he ⊢
        obtain ⟨m, hm, rfl⟩ := he
        exact ⟨m, ih e m b hm (by omega), rfl⟩
      rw [List.take_succ_cons, dq]
      rw [dq] at h
      by_cases h1 : esc = true
      · rw [if_pos h1] at h ⊢; exact key _ h
      · rw [if_neg h1] at h ⊢
        by_cases h2 : c = 92
        · rw [if_pos h2] at h ⊢; exact key _ h
        · rw [if_neg h2] at h ⊢
          by_cases h3 : c = 34
          · rw [if_pos h3] at h ⊢; exact h
          · rw [if_neg h3] at h ⊢; exact key _ h

theorem br_take : ∀ (m : Nat) (l : List UInt8), l.length ≤ m → ∀ (esc : Bool) (d n b : Nat), br esc d l = some n → n ≤ b → br esc d (l.take b) = some n := by
  intro m
  induction m with
  | zero => intro l hl esc d n b h _; have : l = [] := List.eq_nil_of_length_eq_zero (by omega); subst this; simp [br_nil] at h
  | succ m ih =>
    intro l hl esc d n b h hb
    have hn := (br_le _ l (Nat.le_refl _) _ _ n h).1
    cases l with
    | nil => simp [br_nil] at h
    | cons c r =>
      cases b with
      | zero => omega
      | succ b =>
        have key : ∀ e d', (br e d' r).map (· + 1) = some n → (br e d' (r.take b)).map (· + 1) = some n := by
          intro e d' he
          simp only [Option.map_eq_some_iff] at he ⊢
          obtain ⟨k, hk, rfl⟩ := he
          exact ⟨k, ih r (by simp at hl; omega) e d' k b hk (by omega), rfl⟩
        rw [List.take_succ_cons]
        cases esc with
        | true => rw [br_esc] at h ⊢; exact key _ _ h
        | false =>
          by_cases h1 : c = 92
          · rw [br_back _ _ _ h1] at h ⊢; exact key _ _ h
          · by_cases h2 : c = 36 ∧ r.head? = some 123
            · obtain ⟨h2, h2'⟩ := h2
              cases r with
              | nil => simp at h2'
              | cons c2 r =>
                simp at h2'
                rw [br_open _ _ _ _ h2 h2'] at h
                simp only [Option.map_eq_some_iff] at h
                obtain ⟨k, hk, rfl⟩ := h
                have hk1 := (br_le _ r (Nat.le_refl _) _ _ k hk).1
                cases b with
                | zero => omega
                | succ b =>
                  rw [List.take_succ_cons, br_open _ _ _ _ h2 h2']
                  simp only [Option.map_eq_some_iff]
                  exact ⟨k, ih r (by simp at hl; omega) _ _ k b hk (by omega), rfl⟩
            · have h2b : ¬ (c = 36 ∧ (r.take b).head? = some 123) := by
                intro e
                apply h2
                refine ⟨e.1, ?_⟩
                cases r with
                | nil => simp at e
                | cons c2 r =>
                  cases b with
                  | zero => simp at e
                  | succ b => simpa using e.2
              by_cases h3 : c = 125
              · rw [br_close _ _ _ h3] at h ⊢
                by_cases hd : d = 1
                · rw [if_pos hd] at h ⊢; exact h
                · rw [if_neg hd] at h ⊢; exact key _ _ h
              · rw [br_else _ _ _ h1 h2 h3] at h
                rw [br_else _ _ _ h1 h2b h3]
                exact key _ _ h

theorem unitLen_take (l : List UInt8) (hl : l ≠ []) (n b : Nat) (h : unitLen l = some n) (hb : n ≤ b) : unitLen (l.take b) = some n := by
  have hn := unitLen_le l hl n h
  cases l with
  | nil => exact absurd rfl hl
  | cons c r =>
    cases b with
    | zero => omega
    | succ b =>
      rw [List.take_succ_cons]
      rw [unitLen] at h ⊢
      by_cases h1 : c = 92 ∧ r ≠ []
      · rw [if_pos h1] at h
        simp at h
        subst h
        rw [if_pos]
        refine ⟨h1.1, ?_⟩
        intro e
        rw [List.take_eq_nil_iff] at e
        rcases e with e | e
        · omega
        · exact h1.2 e
      · rw [if_neg h1] at h
        have h1b : ¬ (c = 92 ∧ r.take b ≠ []) := fun e => h1 ⟨e.1, fun er => e.2 (by rw [er]; simp)⟩
        rw [if_neg h1b]
        by_cases h2 : c = 39
        · rw [if_pos h2] at h ⊢
          simp only [Option.map_eq_some_iff] at h ⊢
          obtain ⟨m, hm, rfl⟩ := h
          exact ⟨m, sq_take r m b hm (by omega), rfl⟩
        · rw [if_neg h2] at h ⊢
          by_cases h3 : c = 34
          · rw [if_pos h3] at h ⊢
            simp only [Option.map_eq_some_iff] at h ⊢
            obtain ⟨m, hm, rfl⟩ := h
            exact ⟨m, dq_take r _ m b hm (by omega), rfl⟩
          · rw [if_neg h3] at h ⊢
            by_cases h4 : c = 36 ∧ r.head? = some 123
            · rw [if_pos h4] at h
              simp only [Option.map_eq_some_iff] at h
              obtain ⟨m, hm, rfl⟩ := h
              cases r with
              | nil => simp at h4
              | cons c2 r =>
                simp only [List.tail_cons] at hm
                have hm1 := (br_le _ r (Nat.le_refl _) _ _ m hm).1
                cases b with
                | zero => omega
                | succ b =>
                  rw [List.take_succ_cons, if_pos (by simpa using h4)]
                  simp only [Option.map_eq_some_iff, List.tail_cons]
                  exact ⟨m, br_take _ r (Nat.le_refl _) _ _ m b hm (by omega), rfl⟩
            · rw [if_neg h4] at h
              have h4b : ¬ (c = 36 ∧ (r.take b).head? = some 123) := by
                intro e
                apply h4
                refine ⟨e.1, ?_⟩
                cases r with
                | nil => simp at e
                | cons c2 r =>
                  cases b with
                  | zero => simp at e
                  | succ b => simpa using e.2
              rw [if_neg h4b]
              exact h

/-- Each word's sign of equality is the one that a look at the word alone finds. -/
def WOk (i : Nat) (l : List UInt8) (ws : List (Int × Int × Int)) : Prop :=
  ∀ t ∈ ws, ∃ p b : Nat, t.1 = ((i + p : Nat) : Int) ∧ t.2.1 = ((i + p + b : Nat) : Int) ∧ p + b ≤ l.length ∧ t.2.2 = eqAt 0 (i + p) ((l.drop p).take b)

theorem WOk.tail {i : Nat} {c : UInt8} {r : List UInt8} {ws : List (Int × Int × Int)} (h : WOk (i + 1) r ws) : WOk i (c :: r) ws := by
  intro t ht
  obtain ⟨p, b, h1, h2, h3, h4⟩ := h t ht
  refine ⟨p + 1, b, by rw [h1]; omega, by rw [h2]; omega, by simp; omega, ?_⟩
  rw [h4, List.drop_succ_cons]
  congr 1
  omega

theorem W_law : ∀ (l : List UInt8),
    (∀ i, (W 0 i (-1) (-1) l).2 = true → WOk i l (W 0 i (-1) (-1) l).1) ∧
    (∀ skip i (start eq : Int), skip ≤ l.length → 0 ≤ start → -1 ≤ eq → (W skip i start eq l).2 = true →
      ∃ b ws, skip ≤ b ∧ b ≤ l.length ∧ (W skip i start eq l).1 = (start, ((i + b : Nat) : Int), if 0 ≤ eq then eq else eqAt skip i (l.take b)) :: ws ∧ WOk i l ws) := by
  intro l
  induction l with
  | nil =>
    refine ⟨fun i _ t ht => ?_, fun skip i start eq hs h0 he _ => ?_⟩
    · rw [W] at ht; simp at ht
    · refine ⟨0, [], hs, Nat.le_refl _, ?_, fun t ht => by simp at ht⟩
      have : eqAt skip i (([] : List UInt8).take 0) = -1 := by cases skip <;> rfl
      rw [this, W, if_pos h0]
      by_cases h : 0 ≤ eq
      · rw [if_pos h]; rfl
      · rw [if_neg h, show eq = -1 by omega]; rfl
  | cons c r ih =>
    obtain ⟨ih1, ih2⟩ := ih
    refine ⟨fun i hcl => ?_, fun skip i start eq hs h0 he hcl => ?_⟩
    · by_cases hb : c = 32 ∨ c = 9
      · rw [W_blank _ _ _ _ _ hb, if_neg (by omega)] at hcl ⊢
        exact (ih1 (i + 1) hcl).tail
      · cases hu : unitLen (c :: r) with
        | none => rw [W_none _ _ _ _ _ hb hu] at hcl; simp at hcl
        | some n =>
          have hle := unitLen_le (c :: r) (by simp) n hu
          simp only [List.length_cons] at hle
          rw [W_some _ _ _ _ _ n hb hu, if_pos (by omega)] at hcl ⊢
          have e2 : (if c = 61 ∧ (-1 : Int) < 0 then (i : Int) else -1) = if c = 61 then (i : Int) else -1 := by simp
          rw [e2] at hcl ⊢
          obtain ⟨b, ws, hb1, hb2, hw, hok⟩ := ih2 (n - 1) (i + 1) (i : Int) (if c = 61 then (i : Int) else -1) (by omega) (by omega) (by split <;> omega) hcl
          rw [hw]
          intro t ht
          rw [List.mem_cons] at ht
          rcases ht with rfl | ht
          · refine ⟨0, b + 1, by simp, by simp; omega, by simp; omega, ?_⟩
            simp only [List.drop_zero, List.take_succ_cons, Nat.add_zero]
            by_cases hc : c = 61
            · rw [if_pos hc, if_pos (by omega), eqAt_hit _ _ _ hc]
            · have hut := unitLen_take (c :: r) (by simp) n (b + 1) hu (by omega)
              rw [List.take_succ_cons] at hut
              rw [if_neg hc, if_neg (by omega), eqAt_some _ _ _ n hc hut]
          · exact hok.tail t ht
    · cases skip with
      | succ sk =>
        rw [W] at hcl ⊢
        obtain ⟨b, ws, hb1, hb2, hw, hok⟩ := ih2 sk (i + 1) start eq (by simpa using hs) h0 he hcl
        refine ⟨b + 1, ws, by omega, by simp; omega, ?_, hok.tail⟩
        rw [hw, List.take_succ_cons, eqAt]
        have : i + 1 + b = i + (b + 1) := by omega
        rw [this]
      | zero =>
        by_cases hb : c = 32 ∨ c = 9
        · rw [W_blank _ _ _ _ _ hb, if_pos h0] at hcl ⊢
          refine ⟨0, _, Nat.le_refl _, Nat.zero_le _, ?_, (ih1 (i + 1) hcl).tail⟩
          have : (if 0 ≤ eq then eq else eqAt 0 i ((c :: r).take 0)) = eq := by
            by_cases h : 0 ≤ eq
            · rw [if_pos h]
            · rw [if_neg h, List.take_zero, show eq = -1 by omega]; rfl
          rw [this]; rfl
        · cases hu : unitLen (c :: r) with
          | none => rw [W_none _ _ _ _ _ hb hu] at hcl; simp at hcl
          | some n =>
            have hle := unitLen_le (c :: r) (by simp) n hu
            simp only [List.length_cons] at hle
            rw [W_some _ _ _ _ _ n hb hu, if_neg (by omega)] at hcl ⊢
            obtain ⟨b, ws, hb1, hb2, hw, hok⟩ := ih2 (n - 1) (i + 1) start (if c = 61 ∧ eq < 0 then (i : Int) else eq) (by omega) h0 (by split <;> omega) hcl
            refine ⟨b + 1, ws, Nat.zero_le _, by simp; omega, ?_, hok.tail⟩
            rw [hw, List.take_succ_cons]
            have e1 : i + 1 + b = i + (b + 1) := by omega
            rw [e1]
            congr 2
            congr 1
            by_cases hq : 0 ≤ eq
            · have hin : (if c = 61 ∧ eq < 0 then (i : Int) else eq) = eq := if_neg (by omega)
              rw [hin, if_pos hq, if_pos hq]
            · by_cases hc : c = 61
              · have hin : (if c = 61 ∧ eq < 0 then (i : Int) else eq) = i := if_pos ⟨hc, by omega⟩
                rw [hin, if_pos (by omega), if_neg hq, eqAt_hit _ _ _ hc]
              · have hin : (if c = 61 ∧ eq < 0 then (i : Int) else eq) = eq := if_neg (fun e => hc e.1)
                have hut := unitLen_take (c :: r) (by simp) n (b + 1) hu (by omega)
                rw [List.take_succ_cons] at hut
                rw [hin, if_neg hq, if_neg hq, eqAt_some _ _ _ n hc hut]

/-- A text without blanks is one word. -/
theorem W_one : ∀ (l : List UInt8), (∀ c ∈ l, ¬ (c = 32 ∨ c = 9)) → ∀ skip i (start eq : Int), skip ≤ l.length → 0 ≤ start → -1 ≤ eq →
    (W skip i start eq l).1 = [(start, ((i + l.length : Nat) : Int), if 0 ≤ eq then eq else eqAt skip i l)] := by
  intro l
  induction l with
  | nil =>
    intro _ skip i start eq _ h0 he
    have : eqAt skip i [] = -1 := by cases skip <;> rfl
    rw [this, W, if_pos h0]
    by_cases h : 0 ≤ eq
    · rw [if_pos h]; rfl
    · rw [if_neg h, show eq = -1 by omega]; rfl
  | cons c r ih =>
    intro hnb skip i start eq hs h0 he
    have ih := ih (fun c' hc' => hnb c' (List.mem_cons_of_mem _ hc'))
    have e1 : i + 1 + r.length = i + (c :: r).length := by simp; omega
    cases skip with
    | succ sk =>
      rw [W, ih sk (i + 1) start eq (by simpa using hs) h0 he, e1, eqAt]
    | zero =>
      have hb := hnb c (List.mem_cons_self ..)
      cases hu : unitLen (c :: r) with
      | none =>
        rw [W_none _ _ _ _ _ hb hu, if_neg (by omega), e1]
        by_cases hq : 0 ≤ eq
        · rw [if_neg (by omega), if_pos hq]
        · by_cases hc : c = 61
          · rw [if_pos ⟨hc, by omega⟩, if_neg hq, eqAt_hit _ _ _ hc]
          · rw [if_neg (fun e => hc e.1), if_neg hq, eqAt_none _ _ _ hc hu, show eq = -1 by omega]
      | some n =>
        have hle := unitLen_le (c :: r) (by simp) n hu
        simp only [List.length_cons] at hle
        rw [W_some _ _ _ _ _ n hb hu, if_neg (by omega), ih (n - 1) (i + 1) start _ (by omega) h0 (by split <;> omega), e1]
        by_cases hq : 0 ≤ eq
        · have hin : (if c = 61 ∧ eq < 0 then (i : Int) else eq) = eq := if_neg (by omega)
          rw [hin, if_pos hq, if_pos hq]
        · by_cases hc : c = 61
          · have hin : (if c = 61 ∧ eq < 0 then (i : Int) else eq) = i := if_pos ⟨hc, by omega⟩
            rw [hin, if_pos (by omega), if_neg hq, eqAt_hit _ _ _ hc]
          · have hin : (if c = 61 ∧ eq < 0 then (i : Int) else eq) = eq := if_neg (fun e => hc e.1)
            rw [hin, if_neg hq, if_neg hq, eqAt_some _ _ _ n hc hu]

theorem eqAt_shift : ∀ (l : List UInt8) (skip i j : Nat), eqAt skip (i + j) l = if eqAt skip i l < 0 then -1 else eqAt skip i l + j := by
  intro l
  induction l with
  | nil => intro skip i j; cases skip <;> rfl
  | cons c r ih =>
    intro skip i j
    have key : ∀ s, eqAt s (i + j + 1) r = if eqAt s (i + 1) r < 0 then -1 else eqAt s (i + 1) r + j := by
      intro s
      have := ih s (i + 1) j
      rwa [show i + 1 + j = i + j + 1 by omega] at this
    cases skip with
    | succ sk => rw [eqAt, eqAt]; exact key sk
    | zero =>
      by_cases hc : c = 61
      · rw [eqAt_hit _ _ _ hc, eqAt_hit _ _ _ hc, if_neg (by omega)]; omega
      · cases hu : unitLen (c :: r) with
        | none => rw [eqAt_none _ _ _ hc hu, eqAt_none _ _ _ hc hu]; rfl
        | some n => rw [eqAt_some _ _ _ n hc hu, eqAt_some _ _ _ n hc hu]; exact key _

end Pl
end Go.Proofs.Qxb6609067aFmt
