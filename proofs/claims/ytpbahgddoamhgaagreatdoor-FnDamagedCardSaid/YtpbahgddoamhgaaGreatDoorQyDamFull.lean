/- FnDamaged: for every input the law returns true, and the input reads behind the call as it read before; the package-level variables that the row lists hold what the program's text lays (the card ties this). -/
import Derived.Test.YtpbahgddoamhgaaGreatDoorCards
import Derived.Test.YtpbahgddoamhgaaGreatDoorTie
import Derived.Test.YtpbahgddoamhgaaGreatDoorQl
import Derived.WalkKit
import Derived.ProofKit
import Derived.Deep.DeepHandedRow
namespace Go.Proofs.YtpbahgddoamhgaaGreatDoor
open Go Go.ChangeShapes Go.WideShapes Go.ChangeAt Go.RowKit
set_option maxRecDepth 100000

theorem damf_reads (os : Os) {H : Type} (enc : TypeId × Value → H) : ∃ places, DataW.whole enc Tryz.prog ((laidWorld os).forCall (fun _ _ => 0) ⟨#[], #[.slice none 0 0, .slice none 0 0, .slice none 0 0, .slice none 0 0], []⟩).memory Tryz.f3.params.toList Rows.fnDamagedSpec.vars false #[Value.slice none 0 0, .slice none 0 0, .slice none 0 0, .slice none 0 0].toList 8 = some ([.nil, .nil, .nil, .nil], [], places) :=
  ⟨[], by kernel_rfl⟩
theorem damf_lifted (os : Os) (started : os.Started) (H : Type) (enc : TypeId × Value → H) (F : Stop.Interp) :
    ReturnsInHanded {} Tryz.checked os 3 .any ((OpenSpec.ofChange Rows.fnDamagedSpec).preRow enc Tryz.prog Tryz.f3 Rows.fnDamagedRow.domain false Rows.fnDamagedRow.laid) (((OpenSpec.ofChange Rows.fnDamagedSpec).at F).post enc Tryz.prog Tryz.f3 false true false false) := by
  obtain ⟨places, hx⟩ := damf_reads os enc
  refine returnsInHanded_of_row (C := Tryz.checked) (s := OpenSpec.ofChange Rows.fnDamagedSpec) ownK started (by kernel_rfl) Tryz.func3
    (witness_row_at (enc := enc) (C := Tryz.checked) false (laidWorld os) #[.slice none 0 0, .slice none 0 0, .slice none 0 0, .slice none 0 0] rfl (by kernel_rfl) (by kernel_rfl) (by kernel_rfl)
      (OpenSpec.preRow_of_cond 8 hx (by kernel_rfl) (fun k hk => by cases hk) (by kernel_rfl) (laidMetH_of noHandles4 (laid_met4 os)))) ?_
  intro W base args ds gs before hval hW _ hcond _ hL _ _
  exact damaged_contract H enc W base args ds gs before hval hW hL
theorem damf_said : Rows.FnDamagedSaid :=
  OpenClaim.holds_of_cond 3 Tryz.f3 rfl rfl rfl rfl rfl rfl rfl ⟨rfl, rfl, rfl, rfl, rfl⟩ rfl rfl rfl rfl rfl (by kernel_rfl) Tryz.func3 (by kernel_rfl)
    (of_decide_eq_true (by kernel_rfl)) (by unfold Func.isWrapper; first | (rw [if_pos (by decide +kernel)]; kernel_rfl) | (rw [if_neg (by decide +kernel)]; exact ⟨rfl, rfl⟩))
    (fun os started H enc _ F => by rw [OpenClaim.pre_eq_preRow]; exact damf_lifted os started H enc F)
theorem damf_plain (f : FuncId) (fn : Func) (hf : Tryz.pinned.checked.prog.funcNamed "cratestrap/laws.FnDamaged" = some f) (hfn : Tryz.pinned.checked.prog.funcs[f]? = some fn) :
    true = Tryz.pinned.checked.prog.looks [] ∧ ∀ (j : Nat) t, fn.params[j]? = some t → Tryz.pinned.checked.prog.wantsStandIn t = false := by
  obtain rfl : f = 3 := Option.some.inj ((show Tryz.prog.funcNamed "cratestrap/laws.FnDamaged" = some 3 by kernel_rfl).symm.trans hf) |>.symm
  obtain rfl : fn = Tryz.f3 := (Option.some.inj (Tryz.func3.symm.trans hfn)).symm
  refine ⟨by kernel_rfl, fun j t ht => ?_⟩
  rw [Tryz.params3] at ht
  have hm := Array.mem_of_getElem? ht
  simp only [List.mem_toArray, List.mem_cons, List.not_mem_nil, or_false] at hm
  have h22 : Tryz.prog.wantsStandIn 22 = false := by kernel_rfl
  have h23 : Tryz.prog.wantsStandIn 23 = false := by kernel_rfl
  rcases hm with rfl | rfl | rfl | rfl <;> assumption
theorem damf_card : Rows.FnDamagedCardSaid :=
  Claim7.holds_tied_plain_at .later [] _ _ _ _ damf_said (fun _ h => by cases h) (by kernel_rfl) (fun _ h => by cases h) fnDamaged_row_tie rfl ⟨rfl, rfl⟩ (by kernel_rfl) rfl damf_plain (by kernel_rfl)
#print axioms damf_card
end Go.Proofs.YtpbahgddoamhgaaGreatDoor
