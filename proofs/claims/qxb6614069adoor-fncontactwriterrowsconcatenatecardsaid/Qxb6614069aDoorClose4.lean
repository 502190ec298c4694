import Derived.Test.Qxb6614069aDoorLift4
namespace Go.Proofs.Qxb6614069aDoor
open Go

theorem concat_row_holds : Rows.FnContactWriterRowsConcatenateSaid :=
  OpenClaim.holds_of_cond 4 Tryd.f4 rfl rfl rfl rfl rfl rfl rfl ⟨rfl, rfl, rfl, rfl, rfl⟩ rfl rfl rfl rfl rfl (by kernel_rfl) Tryd.func4 (by kernel_rfl)
    (of_decide_eq_true (by kernel_rfl)) (by unfold Func.isWrapper; first | (rw [if_pos (by decide +kernel)]; kernel_rfl) | (rw [if_neg (by decide +kernel)]; exact ⟨rfl, rfl⟩))
    (fun os started H enc _ F0 => by rw [OpenClaim.pre_eq_preRow]; exact concat_lifted os started H enc F0)

theorem concat_holds : Rows.FnContactWriterRowsConcatenateCardSaid :=
  Claim7.holds_tied_plain_at .later [] [.data, .data, .data, .data, .sentinel, .pinned, .pinned] true _ true
    concat_row_holds (fun _ h => by cases h) (by kernel_rfl) (fun _ h => by cases h) fnContactWriterRowsConcatenate_row_tie rfl ⟨rfl, rfl⟩ (by kernel_rfl) rfl
    (fun f fn hf hfn => by
      obtain rfl : f = 4 := Option.some.inj ((show Tryd.prog.funcNamed Rows.fnContactWriterRowsConcatenateRow.func = some 4 by kernel_rfl).symm.trans hf) |>.symm
      obtain rfl : fn = Tryd.f4 := (Option.some.inj (Tryd.func4.symm.trans hfn)).symm
      exact ⟨by kernel_rfl, fun j t ht => by
        rw [params4] at ht
        rcases j with _ | _ | _ | _ | _ | j
        · obtain rfl : t = 39 := by simpa using ht.symm
          exact (show Tryd.prog.wantsStandIn 39 = false by kernel_rfl)
        · obtain rfl : t = 40 := by simpa using ht.symm
          exact (show Tryd.prog.wantsStandIn 40 = false by kernel_rfl)
        · obtain rfl : t = 41 := by simpa using ht.symm
          exact (show Tryd.prog.wantsStandIn 41 = false by kernel_rfl)
        · obtain rfl : t = 41 := by simpa using ht.symm
          exact (show Tryd.prog.wantsStandIn 41 = false by kernel_rfl)
        · obtain rfl : t = 42 := by simpa using ht.symm
          exact (show Tryd.prog.wantsStandIn 42 = false by kernel_rfl)
        · simp at ht⟩)
    (by kernel_rfl)

end Go.Proofs.Qxb6614069aDoor
