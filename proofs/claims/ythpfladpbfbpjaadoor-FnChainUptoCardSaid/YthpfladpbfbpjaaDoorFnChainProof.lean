/- laws.FnChain, where what it reads is of bulk at most 1048576: the second form's row and its tied card. -/
import Derived.Test.YthpfladpbfbpjaaDoorRows
import Derived.Test.YthpfladpbfbpjaaDoorTie
import Derived.Test.YthpfladpbfbpjaaDoorCards
import Derived.Test.YthpfladpbfbpjaaDoorPackC
import Derived.Test.YthpfladpbfbpjaaDoorOpenB
import Derived.Test.YthpfladpbfbpjaaDoorFnChainWalk
import Derived.Below
import Derived.ProofKit
import Derived.Lay
import Derived.SevenTiedAt
import Derived.Deep.DeepHandedRow
namespace Go.Proofs.YthpfladpbfbpjaaDoor.fnChainP
open Go.ChangeShapes Go.WideShapes Go.ChangeAt Go.RowKit
set_option linter.unusedVariables false

theorem own : ownKnob Tryd.prog.godebug = none := by kernel_rfl
theorem laidOut : laidOutB Tryd.prog = true := by kernel_rfl
theorem reads (os : Os) {H : Type} (enc : TypeId × Value → H) : ∃ places, DataW.whole enc Tryd.prog ((World.laidAll Tryd.prog os Rows.fnChainUptoRow.laid).forCall (fun _ _ => 0) ⟨#[], #[.slice none 0 0], []⟩).memory Tryd.f8.params.toList Rows.fnChainSpec.vars false #[Value.slice none 0 0].toList 8 = some ([.nil], [], places) :=
  ⟨[], by kernel_rfl⟩

theorem holdsIn (P : Program) (m : Machine) : ({} : Assume).holds P m := by
  simp only [Assume.holds]
  repeat' apply And.intro
  all_goals first | trivial | (intro h; cases h; done) | (intro _ h; cases h; done) | (simp; done)
set_option maxRecDepth 100000 in
theorem lifted (os : Os) (started : os.Started) (H : Type) (enc : TypeId × Value → H) (F : Stop.Interp) :
    ReturnsInHanded {} Tryd.checked os 8 .any ((Rows.OpenSpec.upto Rows.fnChainSpec).preRow enc Tryd.prog Tryd.f8 Rows.fnChainUptoRow.domain false Rows.fnChainUptoRow.laid) (((Rows.OpenSpec.upto Rows.fnChainSpec).at F).post enc Tryd.prog Tryd.f8 false true false false) := by
  obtain ⟨places, hx⟩ := reads os enc
  have hok : Input.okWideB Tryd.prog ((World.laidAll Tryd.prog os Rows.fnChainUptoRow.laid).forCall (fun _ _ => 0) ⟨#[], #[.slice none 0 0], []⟩) 8 ⟨#[], #[.slice none 0 0], []⟩ = true := by kernel_rfl
  refine returnsInHanded_of_row (C := Tryd.checked) (s := Rows.OpenSpec.upto Rows.fnChainSpec) own started (by kernel_rfl) Tryd.func8
    ⟨World.laidAll Tryd.prog os Rows.fnChainUptoRow.laid, fun _ _ => 0, ⟨#[], #[.slice none 0 0], []⟩, World.laidAll_os _ _ _, World.shaped_of_ZipB (by kernel_rfl) (by kernel_rfl), (Input.okWide_of_okWideB (base := 0) hok).1, (Input.okWide_of_okWideB hok).2,
      OpenSpec.preRow_of_cond 8 hx (by kernel_rfl) (fun k hk => by cases hk; kernel_rfl) (by kernel_rfl) (by rw [MakeChecks.laidMetH_plain _ _ _ (by kernel_rfl)]; exact laidMet_laidAll _ (by kernel_rfl) (by kernel_rfl)), holdsIn _ _⟩ ?_
  intro W base args ds gs before hval0 hW _ hcond _ hL _ _
  have hval : ∀ (j : Nat) t v, Tryd.f8.params[j]? = some t → args[j]? = some v → Value.okWide Tryd.prog W .any base t v := hval0
  have hsmall : Rows.uptoSmall H (ds ++ gs) = true := hcond _ rfl
  have htab : TabW W := tab_of_laid hL
  show Calls Tryd.prog 8 args W fun e W' => ∃ v, e = .returned v ∧ Rows.fnChainSpec.post enc Tryd.prog Tryd.f8 false true false false W args v W'
  have hW' := hW
  obtain ⟨p, q, hA0, hV, rfl, hfz, hnd⟩ := hW
  have hA : DataW.TrodAll enc Tryd.prog W 0 (fun _ => true) true Tryd.f8.params.toList args.toList ds p := hA0
  rw [Tryd.params8] at hA hval
  obtain ⟨v0, vs0, d0, ds0, p0, q0, hargs, rfl, rfl, h0, r0⟩ := trodAll_cons hA
  obtain ⟨rfl, rfl, rfl⟩ := trodAll_nil r0
  obtain rfl : args = #[v0] := by cases args; simp_all
  obtain ⟨rfl, rfl⟩ := trodVars_none hV
  have k0 := h0
  have lt0 : ∀ x ∈ p0, x.block < W.heap.size := by obtain ⟨m, hm⟩ := k0; exact DataW.trod_lt m _ _ _ hm
  obtain ⟨a0, c0, l0, hs0, rfl, s0, b0⟩ := open_LB Tryd.underlying22 Tryd.underlying28 Tryd.underlying9 (by kernel_rfl) (by kernel_rfl) (hval 0 22 v0 rfl rfl) h0
  have hbulk : totL l0 ≤ 1048576 := by
    have h1 := of_decide_eq_true hsmall
    simp only [List.append_nil, Rows.uptoBulkAll] at h1
    omega
  clear hA0 hval0 hsmall b0
  refine (fnChain_calls W htab rfl s0 hbulk).mono fun e W' ⟨he, bel⟩ => ?_
  subst he
  simp only [List.append_nil] at hW' ⊢
  exact ⟨_, rfl, _, _, _, [], _, [], hW', trodAll_mk1 (shut_bool Tryd.underlying4 _), (trodAll_cons_mk (Below.trod laidOut (by kernel_rfl) (of_decide_eq_true (by kernel_rfl)) k0 bel lt0) trodAll_mk0), rfl, bel.frame _, fun h => by cases h⟩

theorem holds : Rows.FnChainUptoSaid :=
  OpenClaim.holds_of_cond 8 Tryd.f8 rfl rfl rfl rfl rfl rfl rfl ⟨rfl, rfl, rfl, rfl, rfl⟩ rfl rfl rfl rfl rfl (by kernel_rfl) Tryd.func8 (by kernel_rfl)
    (of_decide_eq_true (by kernel_rfl)) (by unfold Func.isWrapper; first | (rw [if_pos (by decide +kernel)]; kernel_rfl) | (rw [if_neg (by decide +kernel)]; exact ⟨rfl, rfl⟩))
    (fun os started H enc _ F => by rw [OpenClaim.pre_eq_preRow]; exact lifted os started H enc F)

theorem card : Rows.FnChainUptoCardSaid :=
  Claim7.holds_tied_plain_at .later [] _ _ _ _ holds (fun _ h => by cases h) (by kernel_rfl) (fun _ h => by cases h) fnChainUpto_row_tie rfl ⟨rfl, rfl⟩ (by kernel_rfl) rfl
    (fun f fn hf hfn => by
      obtain rfl : f = 8 := Option.some.inj ((show Tryd.prog.funcNamed "loop.example/pub-graphsofrules/laws.FnChain" = some 8 by kernel_rfl).symm.trans hf) |>.symm
      obtain rfl : fn = Tryd.f8 := (Option.some.inj (Tryd.func8.symm.trans hfn)).symm
      exact ⟨by kernel_rfl, fun j t ht => by
        rw [Tryd.params8] at ht
        have hm : t ∈ [22] := by simpa using Array.mem_of_getElem? ht
        have hall : ([22].all fun u => !Tryd.prog.wantsStandIn u) = true := by kernel_rfl
        exact (show Tryd.prog.wantsStandIn t = false by simpa using List.all_eq_true.1 hall t hm)⟩)
    (by kernel_rfl)
end Go.Proofs.YthpfladpbfbpjaaDoor.fnChainP
namespace Go.Proofs.YthpfladpbfbpjaaDoor
/-- THE STATEMENT -/
theorem fnChainUpto_card : Rows.FnChainUptoCardSaid := fnChainP.card
#print axioms fnChainUpto_card
end Go.Proofs.YthpfladpbfbpjaaDoor
