/-
  The frame of the proof of FnFromConfigEachBoolDistinguishes: for every input the call returns true and each argument reads as before; no condition beyond the row's own. Written by a program (gen.py) off the kit's print.
-/
import Derived.Test.YtimmcjjkfhambaaFromConfigEachBoolDistinguishesWalk
import Derived.ProofKit
import Derived.OpenShut
import Derived.ShutString
import Derived.ChangeOld
import Derived.Below
import Derived.Laws.Cover2
import Derived.Test.YtimmcjjkfhambaaFacts
namespace Go.Proofs.Ytimmcjjkfhambaa.fnFromConfigEachBoolDistinguishes
open Go.ChangeShapes Go.WideShapes Go.ChangeAt Go.RowKit
open Go.ChangeMaps (open_string shut_string)
set_option linter.unusedVariables false

theorem own : ownKnob Try.prog.godebug = none := Facts.own
theorem laidOut : laidOutB Try.prog = true := Facts.laidOut
set_option maxRecDepth 100000 in
set_option maxHeartbeats 4000000 in
theorem closed : joinedFacts Try.prog 3 Try.f3 Rows.fnFromConfigEachBoolDistinguishesSpec Rows.fnFromConfigEachBoolDistinguishesRow = true := by
  unfold joinedFacts
  repeat' (with_reducible refine Facts.and_mk ?_ ?_)
  all_goals first | (with_reducible exact Facts.laidOut) | (with_reducible exact Facts.rowed) | (with_reducible exact Facts.enter) | (with_reducible exact Facts.heard) | (as_aux_lemma => kernel_rfl)

set_option maxRecDepth 100000 in
theorem lifted (os : Os) (started : os.Started) (H : Type) (enc : TypeId × Value → H) :
    ReturnsInHanded {} Try.checked os 3 .any (Rows.fnFromConfigEachBoolDistinguishesSpec.pre6 enc Try.prog Try.f3 Rows.fnFromConfigEachBoolDistinguishesRow.domain false) (Rows.fnFromConfigEachBoolDistinguishesSpec.post enc Try.prog Try.f3 false true false false) := by
  refine returnsInHanded_of_change (C := Try.checked) own started (by kernel_rfl) Try.func3
    (ChangeSpec.witness6 (enc := enc) (C := Try.checked) false ⟨#[], #[.agg #[.int .u16 0, .string ⟨#[]⟩, .int .u64 0, .int .u64 0, .int .u64 0, .bool false, .bool false, .slice none 0 0], .int .u8 0], []⟩ 8 (by kernel_rfl) (by kernel_rfl) (by kernel_rfl) (by kernel_rfl)) ?_
  intro W base args ds gs before hval0 hW hcnd _
  have hval : ∀ (j : Nat) t v, Try.f3.params[j]? = some t → args[j]? = some v → Value.okWide Try.prog W .any base t v := hval0
  have hW' := hW
  obtain ⟨p, q, hA0, hV, rfl, hfz, hnd⟩ := hW
  have hA : DataW.TrodAll enc Try.prog W 0 (fun _ => true) true Try.f3.params.toList args.toList ds p := hA0
  rw [Try.params3] at hA hval
  obtain ⟨v0, vs0, d0, ds0, p0, q0, hargs, rfl, rfl, h0, r0⟩ := trodAll_cons hA
  obtain ⟨v1, vs1, d1, ds1, p1, q1, rfl, rfl, rfl, h1, r1⟩ := trodAll_cons r0
  obtain ⟨rfl, rfl, rfl⟩ := trodAll_nil r1
  obtain rfl : args = #[v0, v1] := by cases args; simp_all
  obtain ⟨rfl, rfl⟩ := trodVars_none hV
  have k0 := h0
  have lt0 : ∀ x ∈ p0, x.block < W.heap.size := by obtain ⟨m, hm⟩ := k0; exact DataW.trod_lt m _ _ _ hm
  obtain ⟨a1, rfl, rfl, rfl, w1⟩ := open_int Try.underlying5 (hval 1 5 v1 rfl rfl) h1
  clear hA0
  refine (walk W v0 d0 (hval 0 26 v0 rfl rfl) h0 a1 w1).mono fun e W' ⟨he, bel⟩ => ?_
  subst he
  exact ⟨_, rfl, _, _, _, [], _, [], hW', trodAll_mk1 (shut_bool Try.underlying4 _), (trodAll_cons_mk (Below.trod laidOut (by kernel_rfl) (of_decide_eq_true (by kernel_rfl)) k0 bel lt0) (trodAll_cons_mk (shut_int Try.underlying5 w1) trodAll_mk0)), rfl, bel.frame _, fun h => by cases h⟩

theorem over : Rows.fnFromConfigEachBoolDistinguishesRow.holds Try.pinned (OpenSpec.ofChange Rows.fnFromConfigEachBoolDistinguishesSpec) :=
  OpenClaim.holds_of_wide 3 Try.f3 rfl rfl rfl rfl rfl rfl rfl ⟨rfl, rfl, rfl, rfl, rfl⟩ rfl rfl rfl rfl rfl (by as_aux_lemma => kernel_rfl) Try.func3 closed
    (of_decide_eq_true (by kernel_rfl)) (by unfold Func.isWrapper; first | (rw [if_pos (by decide +kernel)]; kernel_rfl) | (rw [if_neg (by decide +kernel)]; exact ⟨rfl, rfl⟩))
    (fun os started H enc _ => lifted os started H enc)

theorem proved : Rows.FnFromConfigEachBoolDistinguishesSaid := over
#print axioms proved
end Go.Proofs.Ytimmcjjkfhambaa.fnFromConfigEachBoolDistinguishes

