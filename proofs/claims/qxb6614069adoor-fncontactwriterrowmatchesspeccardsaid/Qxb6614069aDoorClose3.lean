import Derived.Test.Qxb6614069aDoorLift3
namespace Go.Proofs.Qxb6614069aDoor
open Go

theorem match_row_holds : Rows.FnContactWriterRowMatchesSpecSaid :=
  OpenClaim.holds_of_cond 3 Tryd.f3 rfl rfl rfl rfl rfl rfl rfl ⟨rfl, rfl, rfl, rfl, rfl⟩ rfl rfl rfl rfl rfl (by kernel_rfl) Tryd.func3 (by kernel_rfl)
    (of_decide_eq_true (by kernel_rfl)) (by unfold Func.isWrapper; first | (rw [if_pos (by decide +kernel)]; kernel_rfl) | (rw [if_neg (by decide +kernel)]; exact ⟨rfl, rfl⟩))
    (fun os started H enc _ F0 => by rw [OpenClaim.pre_eq_preRow]; exact match_lifted os started H enc F0)

theorem match_holds : Rows.FnContactWriterRowMatchesSpecCardSaid :=
  Claim7.holds_tied_plain_at .later [] [.data, .data, .data, .data, .sentinel, .pinned, .pinned] true _ true
    match_row_holds (fun _ h => by cases h) (by kernel_rfl) (fun _ h => by cases h) fnContactWriterRowMatchesSpec_row_tie rfl ⟨rfl, rfl⟩ (by kernel_rfl) rfl
    (fun f fn hf hfn => by
      obtain rfl : f = 3 := Option.some.inj ((show Tryd.prog.funcNamed Rows.fnContactWriterRowMatchesSpecRow.func = some 3 by kernel_rfl).symm.trans hf) |>.symm
      obtain rfl : fn = Tryd.f3 := (Option.some.inj (Tryd.func3.symm.trans hfn)).symm
      exact ⟨by kernel_rfl, fun j t ht => by
        rw [params3] at ht
        rcases j with _ | _ | _ | _ | _ | j
        · obtain rfl : t = 3 := by simpa using ht.symm
          exact (show Tryd.prog.wantsStandIn 3 = false by kernel_rfl)
        · obtain rfl : t = 2 := by simpa using ht.symm
          exact (show Tryd.prog.wantsStandIn 2 = false by kernel_rfl)
        · obtain rfl : t = 22 := by simpa using ht.symm
          exact (show Tryd.prog.wantsStandIn 22 = false by kernel_rfl)
        · obtain rfl : t = 22 := by simpa using ht.symm
          exact (show Tryd.prog.wantsStandIn 22 = false by kernel_rfl)
        · obtain rfl : t = 23 := by simpa using ht.symm
          exact (show Tryd.prog.wantsStandIn 23 = false by kernel_rfl)
        · simp at ht⟩)
    (by kernel_rfl)

end Go.Proofs.Qxb6614069aDoor
