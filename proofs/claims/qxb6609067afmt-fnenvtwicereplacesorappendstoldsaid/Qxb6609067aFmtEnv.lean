import Derived.Test.Qxb6609067aFmtReadP
import Derived.Test.Qxb6609067aFmtPlainD
namespace Go.Proofs.Qxb6609067aFmt
open Go.RowKit Go.Extern.Stop Go.Stop Go.Extern

/-- The first word of the argument, as text. -/
def nameOf (ar : ByteArray) : ByteArray := ar.extract 0 (Pl.fw ar.data.toList)

/-- What follows the first word, trimmed. -/
def valueOf (ar : ByteArray) : ByteArray := ⟨(Lib.trimSpaceD (ar.data.toList.drop (Pl.fw ar.data.toList))).toArray⟩

theorem nameOf_list (ar : ByteArray) : (nameOf ar).data.toList = ar.data.toList.take (Pl.fw ar.data.toList) := by
  unfold nameOf
  rw [Lib.extract_data]
  simp

theorem nameOf_size (ar : ByteArray) : (nameOf ar).size = Pl.fw ar.data.toList := by
  have := fw_le ar.data.toList
  rw [Lib.size_eq, nameOf_list, List.length_take]
  omega

/-- The tables and variables that the road reads. -/
structure Env1 (w : World) : Prop where
  max : ∃ m, w.cell? ⟨2, 0, none⟩ = some (.int .i64 m)
  tab : Lib.TabIs Tryf.prog w "strings.asciiSpace" .u8 Lib.asciiSpaceTab
  utf : Lib.Utf8Tabs 3 4 w
  wht : Lib.WhiteTab 1 w

theorem Tryf.ascGlobal : Tryf.prog.globalNamed "strings.asciiSpace" = some 0 := by kernel_rfl

theorem Env1.below {W w : World} (h : Env1 W) (hb : Below W.heap.size W w) : Env1 w := by
  obtain ⟨m, hm⟩ := h.max
  refine ⟨⟨m, by rw [hb.cell (World.block_lt_of_cell? W _ hm)]; exact hm⟩, ?_, Utf8Tabs_below h.utf hb, WhiteTab_below h.wht hb⟩
  exact var?_below hb Tryf.ascGlobal (by have := World.block_lt_of_cell? W _ hm; simp at this; omega) h.tab

/-- What reading ENV comes to: the pairs, is the slice nil, is there an error. -/
def envRes (ar : ByteArray) (ps : List (ByteArray × ByteArray)) (nl : Bool) : List (ByteArray × ByteArray) × Bool × Bool :=
  if 0 ≤ Pl.eqAt 0 0 (nameOf ar).data.toList then (ps ++ (readRes ar).1, nl && (readRes ar).1.isEmpty, (readRes ar).2)
  else if (valueOf ar).data.toList = [] then (ps, nl, true) else ([(nameOf ar, valueOf ar)], false, false)

def EnvPost (B base : Nat) (line : Int) (kw ar : ByteArray) (vE vF vW vP : Value) (res : List (ByteArray × ByteArray) × Bool × Bool) (w : World) (e : Ending) (w' : World) : Prop :=
  ErrIs res.2.2 e ∧ ∃ v n, Inst w' B line kw ar vE vF vW v ∧ w'.ownsRow base 48 2 v n (pairCells res.1) ∧ (v.ownBlock = vP.ownBlock ∨ ∃ g, v.ownBlock = some g ∧ w.heap.size ≤ g) ∧
    isNilS v = res.2.1 ∧ Fr (fun k => k = B ∨ vP.ownBlock = some k) w w'

theorem EnvPost.of_pairs {B base : Nat} {line : Int} {kw ar : ByteArray} {vE vF vW vP : Value} {ps : List (ByteArray × ByteArray)} {res : List (ByteArray × ByteArray) × Bool} {w w1 w' : World} {e : Ending}
    (h : PairsPost B base line kw ar vE vF vW vP ps res w1 e w') (hb : Below w.heap.size w w1) : EnvPost B base line kw ar vE vF vW vP (ps ++ res.1, isNilS vP && res.1.isEmpty, res.2) w e w' := by
  obtain ⟨he, v, n, h1, h2, h3, h4, h5⟩ := h
  refine ⟨he, v, n, h1, h2, ?_, h4, (Fr.of_below hb).trans h5 (fun i _ e => e)⟩
  rcases h3 with e | ⟨g, e, hg⟩
  · exact .inl e
  · exact .inr ⟨g, e, by have := hb.size; omega⟩

theorem cut_mk (ar : ByteArray) : (⟨(Lib.cut (⟨(ar.data.toList.map tabF).toArray⟩ : ByteArray).data.toList [32]).1.toArray⟩ : ByteArray) = nameOf ar := by
  apply ba_ext
  rw [nameOf_list]
  simp only
  rw [cut_name]

theorem env_own (w : World) (base N : Nat) (a b : ByteArray) (hN : w.heap.size = N) (hb : base ≤ N) : (w.alloc (.cells #[.string a, .string b] 48)).ownsRow base 48 2 (.slice (some ⟨N, 0, none⟩) 1 1) 1 (pairCells [(a, b)]) := by
  subst hN
  exact World.ownsRow_lit w #[.string a, .string b] 1 hb (by unfold maxLen; omega) rfl

set_option maxRecDepth 100000 in
set_option maxHeartbeats 4000000 in
theorem readEnv_any (F : Interp) (B base n : Nat) (line : Int) (kw ar : ByteArray) (vE vF vW vP : Value) (ps : List (ByteArray × ByteArray)) (w : World) (hI : Inst w B line kw ar vE vF vW vP)
    (hP : w.ownsRow base 48 2 vP n (pairCells ps)) (hbase : base ≤ w.heap.size) (hneB : vP.ownBlock ≠ some B) (har : ar.size ≤ 1048576) (hps : n ≤ 100000000) (hF : F.answers w.tape) (hE : Env1 w) :
    Calls Tryf.prog 29 #[.pointer (some ⟨B, 0, none⟩)] w (EnvPost B base line kw ar vE vF vW vP (envRes ar ps (isNilS vP)) w) := by
  obtain ⟨_, _, i2, _, _, _, _⟩ := hI.cell
  have hB := hI.lt
  obtain ⟨m, hm⟩ := hE.max
  have hcnt := Lib.count_le ar.data.toList [9]
  have hlen : ar.data.toList.length = ar.size := by simp
  have HR := hide (Tryf.strings_ReplaceAll ar ⟨#[9]⟩ ⟨#[32]⟩ m w (by omega) hm (by decide) (by show ar.size + Lib.count ar.data.toList [9] * 1 ≤ _; omega))
  rw [show Lib.replaceAll ar.data.toList (⟨#[9]⟩ : ByteArray).data.toList (⟨#[32]⟩ : ByteArray).data.toList = ar.data.toList.map tabF from replaceAll_tabs _] at HR
  obtain ⟨RS, hRS0⟩ : ∃ RS, RS = envRes ar ps (isNilS vP) := ⟨_, rfl⟩
  rw [← hRS0]
  have hm' := hide hm
  have hP' := hide hP
  have hI' := hide hI
  have hF' := hide hF
  have hne' := hide hneB
  have hE' := hide hE
  clear hm hP hI hF hneB hE hcnt hlen
  go_enter Tryf.func29, Tryf.ntmps29
  go_wp2_with fail
  refine (unhide HR).mono ?_
  rintro e w1 ⟨rfl, hb⟩
  have hsz1 : (⟨(ar.data.toList.map tabF).toArray⟩ : ByteArray).size < 4294967281 := by rw [Lib.size_eq]; simp; omega
  have HC := hide (Tryf.strings_Cut ⟨(ar.data.toList.map tabF).toArray⟩ ⟨#[32]⟩ m w1 hsz1 (by rw [hb.cell (World.block_lt_of_cell? w _ (unhide hm'))]; exact unhide hm'))
  have hbH := hide hb
  have hsz := hb.size
  clear hb HR hsz1
  go_wp2_with fail
  refine (unhide HC).mono ?_
  rintro e w2 ⟨rfl, nq, rfl⟩
  rw [show (⟨(Lib.cut (⟨(ar.data.toList.map tabF).toArray⟩ : ByteArray).data.toList (⟨#[32]⟩ : ByteArray).data.toList).1.toArray⟩ : ByteArray) = nameOf ar from cut_mk ar]
  have hns : (nameOf ar).size ≤ 1048576 := by rw [nameOf_size]; have := fw_le ar.data.toList; simp at this; omega
  have hb2 : Below w.heap.size w (w1.drewN nq) := bdrew (unhide hbH)
  have HS := hide (split_any (nameOf ar) (w1.drewN nq) hns)
  clear HC
  go_wp2_with fail
  refine (unhide HS).mono ?_
  rintro e w3 ⟨⟨n2, rfl⟩, h⟩
  have hb3 : Below w.heap.size w (w1.drewN (nq + n2)) := bdrew (unhide hbH)
  have hI3 := (unhide hI').fr (S := fun _ => False) (Fr.of_below hb3) (by simp)
  rcases h with ⟨hq, rfl⟩ | ⟨q, hq, hqs, rfl⟩
  · have hle : (nameOf ar).size ≤ ar.size := by rw [nameOf_size]; have := fw_le ar.data.toList; simp at this; omega
    have hE3 := (unhide hE').below hb3
    have HT := hide (Tryf.strings_TrimSpace_any (ar.extract (nameOf ar).size ar.size) (w1.drewN (nq + n2)) (by rw [ByteArray.size_extract]; omega) hE3.tab hE3.utf hE3.wht)
    have hval : (⟨(Lib.trimSpaceD (ar.extract (nameOf ar).size ar.size).data.toList).toArray⟩ : ByteArray) = valueOf ar := by unfold valueOf; rw [tail_list, nameOf_size]
    rw [hval] at HT
    obtain ⟨_, _, j2, _, _, _, _⟩ := hI3.cell
    simp only [World.cell?_drewN] at j2
    have hb3' := hide hb3
    have hI3' := hide hI3
    clear hb2 hb3 HS hval hI3 hE3
    go_wp2_with fail
    refine (unhide HT).mono ?_
    rintro e w4 ⟨rfl, hb4⟩
    have hz4 := hb4.size
    have hbw4 : Below w.heap.size w w4 := (unhide hb3').trans (hb4.mono (unhide hb3').size)
    have hI4 := (unhide hI3').fr (S := fun _ => False) (Fr.of_below hb4) (by simp)
    have hP4 := hide (ownsRow_below (unhide hP') hbw4)
    obtain ⟨_, _, _, _, _, _, k6⟩ := hI4.cell
    have kf6 := hI4.frozen 6
    have hB4 := hI4.lt
    have hI4' := hide hI4
    have hbw4' := hide hbw4
    have hF4 : Hid (F.answers w4.tape) := by simp only [Hid]; rw [hbw4.tape]; exact unhide hF'
    have hbs : base ≤ w4.heap.size := by have := hbw4.size; omega
    have hws := hbw4.size
    by_cases hv : (valueOf ar).data.toList = []
    · have hRS : Hid (RS = (ps, isNilS vP, true)) := by rw [hRS0, envRes, if_neg (by omega), if_pos hv]; exact rfl
      have hvb : (valueOf ar).toList.isEmpty = true := by rw [ByteArray.toList_eq, hv]; rfl
      clear hb4 hbw4 hI4 HT hv hq hRS0
      go_wp2_with fail
      refine (errorf1 F _ _ (by exact unhide hF4) (one_new0 _ _ _)).mono ?_
      rintro e w5 ⟨p, rfl, hbe⟩
      have hbx : Hid (Below w4.heap.size w4 w5) := ((Below.refl _ w4).alloc (Nat.le_refl _) _).trans (hbe.mono (by simp))
      clear hbe
      go_wp2
      go_ret
      rw [unhide hRS]
      exact ⟨.inr ⟨rfl, _, rfl⟩, vP, n, (unhide hI4').fr (S := fun _ => False) (Fr.of_below (unhide hbx)) (by simp), ownsRow_below (unhide hP4) (unhide hbx), .inl rfl, rfl, Fr.of_below ((unhide hbw4').trans ((unhide hbx).mono hws))⟩
    · have hRS : Hid (RS = ([(nameOf ar, valueOf ar)], false, false)) := by rw [hRS0, envRes, if_neg (by omega), if_neg hv]; exact rfl
      have hvb : (valueOf ar).toList.isEmpty = false := by
        rw [ByteArray.toList_eq]
        cases h : (valueOf ar).data.toList with
        | nil => exact absurd h hv
        | cons a b => rfl
      clear hb4 hbw4 hI4 HT hv hq hRS0
      go_wp2
      go_ret
      rw [unhide hRS]
      refine ⟨.inl ⟨rfl, rfl⟩, .slice (some ⟨w4.heap.size, 0, none⟩) 1 1, 1, ?_, ?_, .inr ⟨w4.heap.size, rfl, hws⟩, rfl, ?_⟩
      · exact ((unhide hI4').store _).fr (S := fun _ => False) (Fr.of_below ((Below.refl _ _).alloc (Nat.le_refl _) _)) (by simp)
      · exact env_own (w4.setCell ⟨B, 6, none⟩ (.slice (some ⟨w4.heap.size, 0, none⟩) 1 1)) base w4.heap.size (nameOf ar) (valueOf ar) (by simp [World.setCell]) hbs
      · refine (Fr.of_below (S := fun k => k = B ∨ vP.ownBlock = some k) (unhide hbw4')).trans (T := fun k => k = B) ⟨rfl, rfl, rfl, by simp [World.setCell], fun k hk hs => ?_⟩ (fun i _ e => .inl e)
        rw [Below.heap_alloc _ _ _ (by simpa [World.setCell] using hk)]
        exact Below.heap_setCell _ _ _ _ hs
  · have hRS : Hid (RS = (ps ++ (readRes ar).1, isNilS vP && (readRes ar).1.isEmpty, (readRes ar).2)) := by rw [hRS0, envRes, if_pos (by omega)]; exact rfl
    have HP := hide (readPairs_any F B base n line kw ar vE vF vW vP ps (w1.drewN (nq + n2)) hI3 (ownsRow_below (unhide hP') hb3) (by have := hb3.size; omega) (unhide hne') har hps (by rw [hb3.tape]; exact unhide hF'))
    have hb3' := hide hb3
    clear hb2 hb3 HS hq hRS0 hI3
    go_wp2_with fail
    refine (unhide HP).mono ?_
    rintro e w4 hp
    have hp' := hide hp
    obtain ⟨he, _⟩ := hp
    rcases he with ⟨_, rfl⟩ | ⟨_, p, rfl⟩
    · go_wp2
      go_ret
      rw [unhide hRS]
      exact EnvPost.of_pairs (unhide hp') (unhide hb3')
    · go_wp2
      go_ret
      rw [unhide hRS]
      exact EnvPost.of_pairs (unhide hp') (unhide hb3')
end Go.Proofs.Qxb6609067aFmt
