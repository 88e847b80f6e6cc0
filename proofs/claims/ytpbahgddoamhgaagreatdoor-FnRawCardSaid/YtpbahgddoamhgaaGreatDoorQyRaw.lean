/- FnRaw: for every input the law returns true, and the input reads behind the call as it read before; the package-level variables that the row lists hold what the program's text lays (the card ties this). -/
import Derived.Test.YtpbahgddoamhgaaGreatDoorCards
import Derived.Test.YtpbahgddoamhgaaGreatDoorTie
import Derived.Test.YtpbahgddoamhgaaGreatDoorQk
import Derived.WalkKit
import Derived.ProofKit
import Derived.Deep.DeepHandedRow
namespace Go.Proofs.YtpbahgddoamhgaaGreatDoor
open Go Go.ChangeShapes Go.WideShapes Go.ChangeAt Go.RowKit
set_option maxRecDepth 100000

theorem raw_reads (os : Os) {H : Type} (enc : TypeId × Value → H) : ∃ places, DataW.whole enc Tryz.prog ((laidWorld os).forCall (fun _ _ => 0) ⟨#[], #[.slice none 0 0], []⟩).memory Tryz.f4.params.toList Rows.fnRawSpec.vars false #[Value.slice none 0 0].toList 8 = some ([.nil], [], places) :=
  ⟨[], by kernel_rfl⟩
theorem raw_lifted (os : Os) (started : os.Started) (H : Type) (enc : TypeId × Value → H) (F : Stop.Interp) :
    ReturnsInHanded {} Tryz.checked os 4 .any ((OpenSpec.ofChange Rows.fnRawSpec).preRow enc Tryz.prog Tryz.f4 Rows.fnRawRow.domain false Rows.fnRawRow.laid) (((OpenSpec.ofChange Rows.fnRawSpec).at F).post enc Tryz.prog Tryz.f4 false true false false) := by
  obtain ⟨places, hx⟩ := raw_reads os enc
  refine returnsInHanded_of_row (C := Tryz.checked) (s := OpenSpec.ofChange Rows.fnRawSpec) ownK started (by kernel_rfl) Tryz.func4
    (witness_row_at (enc := enc) (C := Tryz.checked) false (laidWorld os) #[.slice none 0 0] rfl (by kernel_rfl) (by kernel_rfl) (by kernel_rfl)
      (OpenSpec.preRow_of_cond 8 hx (by kernel_rfl) (fun k hk => by cases hk) (by kernel_rfl) (laidMetH_of noHandles (laid_met1 os)))) ?_
  intro W base args ds gs before hval hW _ _ _ hL _ _
  exact raw_contract H enc W base args ds gs before hval hW hL
theorem raw_said : Rows.FnRawSaid :=
  OpenClaim.holds_of_cond 4 Tryz.f4 rfl rfl rfl rfl rfl rfl rfl ⟨rfl, rfl, rfl, rfl, rfl⟩ rfl rfl rfl rfl rfl (by kernel_rfl) Tryz.func4 (by kernel_rfl)
    (of_decide_eq_true (by kernel_rfl)) (by unfold Func.isWrapper; first | (rw [if_pos (by decide +kernel)]; kernel_rfl) | (rw [if_neg (by decide +kernel)]; exact ⟨rfl, rfl⟩))
    (fun os started H enc _ F => by rw [OpenClaim.pre_eq_preRow]; exact raw_lifted os started H enc F)
theorem raw_plain (f : FuncId) (fn : Func) (hf : Tryz.pinned.checked.prog.funcNamed "cratestrap/laws.FnRaw" = some f) (hfn : Tryz.pinned.checked.prog.funcs[f]? = some fn) :
    true = Tryz.pinned.checked.prog.looks [] ∧ ∀ (j : Nat) t, fn.params[j]? = some t → Tryz.pinned.checked.prog.wantsStandIn t = false := by
  obtain rfl : f = 4 := Option.some.inj ((show Tryz.prog.funcNamed "cratestrap/laws.FnRaw" = some 4 by kernel_rfl).symm.trans hf) |>.symm
  obtain rfl : fn = Tryz.f4 := (Option.some.inj (Tryz.func4.symm.trans hfn)).symm
  refine ⟨by kernel_rfl, fun j t ht => ?_⟩
  rw [Tryz.params4] at ht
  obtain rfl : t = 22 := by simpa using Array.mem_of_getElem? ht
  exact (show Tryz.prog.wantsStandIn 22 = false by kernel_rfl)
theorem raw_card : Rows.FnRawCardSaid :=
  Claim7.holds_tied_plain_at .later [] _ _ _ _ raw_said (fun _ h => by cases h) (by kernel_rfl) (fun _ h => by cases h) fnRaw_row_tie rfl ⟨rfl, rfl⟩ (by kernel_rfl) rfl raw_plain (by kernel_rfl)
#print axioms raw_card
end Go.Proofs.YtpbahgddoamhgaaGreatDoor
