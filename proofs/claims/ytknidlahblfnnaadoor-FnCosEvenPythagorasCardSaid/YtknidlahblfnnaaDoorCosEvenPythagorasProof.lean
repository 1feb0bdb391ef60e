/-
  The frame of the proof of FnCosEvenPythagoras: for every input the call returns true, each argument reads as before; the card ties the three listed tables of math to the program's text. Condition: the row's own (the tables start as their initialisers lay them). Written by a program (gen_cedoor.py).
-/
import Derived.Test.YtknidlahblfnnaaDoorCosEvenPythagorasWalk
import Derived.Lib.LaidU8
import Derived.Lib.LaidIn
import Derived.Deep.DeepWitnessRowRef
import Derived.Test.YtknidlahblfnnaaDoorCards
import Derived.Test.YtknidlahblfnnaaDoorTie
import Derived.ProofKit
import Derived.OpenShut
import Derived.ShutString
import Derived.ChangeOld
import Derived.Below
import Derived.Laws.Cover2
import Derived.OpenVars
import Derived.LaidMore
import Derived.Deep.DeepHandedRow
import Derived.SevenTiedAt
import Derived.Test.YtknidlahblfnnaaDoorFacts
namespace Go.Proofs.YtknidlahblfnnaaDoor.fnCosEvenPythagoras
open Go.ChangeShapes Go.WideShapes Go.ChangeAt Go.RowKit
open Go.ChangeMaps (open_string shut_string)
set_option linter.unusedVariables false

theorem own : ownKnob Tryd.prog.godebug = none := Facts.own
theorem laidOut : laidOutB Tryd.prog = true := Facts.laidOut
set_option maxRecDepth 100000 in
set_option maxHeartbeats 4000000 in
theorem closed : joinedFacts Tryd.prog 3 Tryd.f3 Rows.fnCosEvenPythagorasSpec Rows.fnCosEvenPythagorasRow = true := by
  unfold joinedFacts
  repeat' (with_reducible refine Facts.and_mk ?_ ?_)
  all_goals first | (with_reducible exact Facts.laidOut) | (with_reducible exact Facts.rowed) | (with_reducible exact Facts.enter) | (with_reducible exact Facts.heard) | (as_aux_lemma => kernel_rfl)
theorem trod_float {H : Type} {enc : TypeId × Value → H} {P : Program} {w : World} {base : Nat} {sp : Nat → Bool} {held : Bool} {fuel : Nat} {t : TypeId} {cs : List Value} {x : DataW H × List MemPlace} {k : FloatKind} (ht : P.underlying t = some (.float k))
    (h : DataW.trod enc P w base sp held fuel t cs = some x) : ∃ b, cs = [.float k b] ∧ x.1 = .lit (.float k b) := by
  cases fuel with
  | zero => simp [DataW.trod] at h
  | succ n =>
    unfold DataW.trod at h
    rw [ht] at h
    split at h <;> simp_all
    rw [← h.2]
/-- An array of floats that reads as these holds them. -/
theorem floats {W : World} {name : String} {zs : List Nat} {g : Nat} (hg : Tryd.prog.globalNamed name = some g) (hty : (Tryd.prog.globals[g]?).map (·.type) = some 36) (hr : Lib.VarReads Tryd.prog W name (.agg (zs.map fun z => .lit (.float .f64 z)))) (i : Nat) (hi : i < 6) :
    W.cell? ⟨g, i, none⟩ = some (.float .f64 (zs.getD i 0)) := by
  obtain ⟨g', t', cs, fuel, p, hg', ht', hvar, hd⟩ := hr
  obtain rfl := Option.some.inj (hg.symm.trans hg')
  obtain rfl := Option.some.inj (hty.symm.trans ht')
  obtain ⟨fuel', d, q, h1, h2⟩ := Lib.array_elem Tryd.underlying36 hd i hi
  have hc : Tryd.prog.cellsOf 22 = 1 := by kernel_rfl
  rw [hc] at h2
  obtain ⟨b, e1, e2⟩ := trod_float Tryd.underlying22 h2
  simp only at e2
  have h3 : cs.toList[i]? = some (.float .f64 b) := by
    have := congrArg (·[0]?) e1
    simpa [List.getElem?_take, List.getElem?_drop] using this
  have h4 : zs[i]? = some b := by
    rw [e2, List.getElem?_map] at h1
    obtain ⟨z, hz, hz2⟩ := Option.map_eq_some_iff.1 h1
    rw [hz]
    simpa using hz2
  rw [World.var?_cell hg hvar i]
  have h5 : cs[i]? = some (.float .f64 b) := by simpa using h3
  rw [h5, List.getD_eq_getElem?_getD, h4]
  rfl
theorem ints {W : World} (hg : Tryd.prog.globalNamed "math.mPi4" = some 3) (hty : (Tryd.prog.globals[3]?).map (·.type) = some 40) (hr : Lib.VarReads Tryd.prog W "math.mPi4" (Lib.tabData .u64 Ce.tab)) : Ce.Tab W := by
  intro i hi
  obtain ⟨g', t', cs, fuel, p, hg', ht', hvar, hd⟩ := hr
  obtain rfl := Option.some.inj (hg.symm.trans hg')
  obtain rfl := Option.some.inj (hty.symm.trans ht')
  have hT : Lib.TabIs Tryd.prog W "math.mPi4" .u64 Ce.tab := by
    unfold Lib.TabIs
    rw [hvar, ← Lib.cells_of_tab Tryd.underlying40 Tryd.underlying33 (by kernel_rfl) (by kernel_rfl) hd]
  exact hT.cell hg i hi
def sinL : List Nat := [4460209587652500685, 13716528389658582877, 4523617212962785441, 13774824197404483331, 4575957461383575504, 13818544856648471880]
def cosL : List Nat := [13666448263388469915, 4477121864728985349, 13732177093698800582, 4537941361668146421, 13787419979223748497, 4586165620538955083]
theorem dS : (Rows.laid_math_sin : DataW Unit) = .agg (sinL.map fun z => .lit (.float .f64 z)) := by kernel_rfl
theorem dC : (Rows.laid_math_cos : DataW Unit) = .agg (cosL.map fun z => .lit (.float .f64 z)) := by kernel_rfl
theorem dP : (Rows.laid_math_mPi4 : DataW Unit) = Lib.tabData .u64 Ce.tab := by kernel_rfl
set_option maxRecDepth 100000 in
theorem of_laid {W : World} (h : laidMetH Tryd.prog Rows.fnCosEvenPythagorasRow.laid W) : Ce.Gl W := by
  rw [MakeChecks.laidMetH_plain _ _ _ (by kernel_rfl)] at h
  have hS := floats (g := 1) (by kernel_rfl) (by kernel_rfl) (dS ▸ Lib.laidMet.reads h (.head _))
  have hC := floats (g := 2) (by kernel_rfl) (by kernel_rfl) (dC ▸ Lib.laidMet.reads h (.tail _ (.head _)))
  have hP := ints (by kernel_rfl) (by kernel_rfl) (dP ▸ Lib.laidMet.reads h (.tail _ (.tail _ (.head _))))
  exact ⟨hS 0 (by decide), hS 1 (by decide), hS 2 (by decide), hS 3 (by decide), hS 4 (by decide), hS 5 (by decide), hC 0 (by decide), hC 1 (by decide), hC 2 (by decide), hC 3 (by decide), hC 4 (by decide), hC 5 (by decide), hP⟩

set_option maxRecDepth 100000 in
theorem contract (H : Type) (enc : TypeId × Value → H) (W : World) (base : Nat) (args : Array Value) (ds gs : List (DataW H)) (before : List MemPlace)
    (hval0 : ∀ (j : Nat) t v, Tryd.f3.params[j]? = some t → args[j]? = some v → Value.okWide Tryd.prog W .any base t v)
    (hW : DataW.Whole enc Tryd.prog Tryd.f3.params.toList Rows.fnCosEvenPythagorasSpec.vars false W args.toList ds gs before) (hL : laidMetH Tryd.prog Rows.fnCosEvenPythagorasRow.laid W) :
    Calls Tryd.prog 3 args W fun e W' => ∃ v, e = .returned v ∧ Rows.fnCosEvenPythagorasSpec.post enc Tryd.prog Tryd.f3 false true false false W args v W' := by
  have hval : ∀ (j : Nat) t v, Tryd.f3.params[j]? = some t → args[j]? = some v → Value.okWide Tryd.prog W .any base t v := hval0
  have hW' := hW
  obtain ⟨p, q, hA0, hV, rfl, hfz, hnd⟩ := hW
  have hA : DataW.TrodAll enc Tryd.prog W 0 (fun _ => true) true Tryd.f3.params.toList args.toList ds p := hA0
  rw [Tryd.params3] at hA hval
  obtain ⟨v0, vs0, d0, ds0, p0, q0, hargs, rfl, rfl, h0, r0⟩ := trodAll_cons hA
  obtain ⟨rfl, rfl, rfl⟩ := trodAll_nil r0
  obtain rfl : args = #[v0] := by cases args; simp_all
  obtain ⟨rfl, rfl⟩ := trodVars_none hV
  obtain ⟨a0, rfl, rfl, rfl, w0⟩ := open_float Tryd.underlying22 (hval 0 22 v0 rfl rfl) h0
  clear hA0
  refine (walk W a0 w0 (of_laid hL)).mono fun e W' ⟨he, bel⟩ => ?_
  subst he
  exact ⟨_, rfl, _, _, _, [], _, [], hW', trodAll_mk1 (shut_bool Tryd.underlying4 _), (trodAll_cons_mk (shut_float Tryd.underlying22 w0) trodAll_mk0), rfl, bel.frame _, fun h => by cases h⟩

noncomputable def laidWorld (os : Os) : World :=
  let w0 := World.holding Tryd.prog os ⟨#[], #[], []⟩
  let put (h : Array Obj) (g : Nat) (cs : Array Value) : Array Obj := h.modify g fun
    | .cells _ t frozen => .cells cs t frozen
    | o => o
  let h1 := put w0.heap 1 (sinL.map fun z => Value.float .f64 z).toArray
  let h2 := put h1 2 (cosL.map fun z => Value.float .f64 z).toArray
  let h3 := put h2 3 (Ce.tab.map fun z => Value.int .u64 z).toArray
  { w0 with heap := h3 }
theorem laid_met (os : Os) (args : Array Value) : laidMet Tryd.prog Rows.fnCosEvenPythagorasRow.laid ((laidWorld os).forCall (fun _ _ => 0) ⟨#[], args, []⟩).memory :=
  (LaidIn.of_run [1, 2, 3] 8 (by kernel_rfl) (by kernel_rfl) (by kernel_rfl) (by kernel_rfl)).met
theorem witness_row (os : Os) {H : Type} (enc : TypeId × Value → H) :
    (OpenSpec.ofChange Rows.fnCosEvenPythagorasSpec).preRow enc Tryd.prog Tryd.f3 Rows.fnCosEvenPythagorasRow.domain false Rows.fnCosEvenPythagorasRow.laid ((laidWorld os).forCall (fun _ _ => 0) ⟨#[], #[.float .f64 0], []⟩).memory #[.float .f64 0] := by
  have hw : (DataW.whole enc Tryd.prog ((laidWorld os).forCall (fun _ _ => 0) ⟨#[], #[.float .f64 0], []⟩).memory Tryd.f3.params.toList (OpenSpec.ofChange Rows.fnCosEvenPythagorasSpec).vars false #[.float .f64 0].toList 8).map (fun x => (x.1, x.2.1)) =
      some ([.lit (.float .f64 0)], []) := by kernel_rfl
  obtain ⟨⟨x1, x2, x3⟩, hx, hx1⟩ := Option.map_eq_some_iff.1 hw
  simp only [Prod.mk.injEq] at hx1
  obtain ⟨rfl, rfl⟩ := hx1
  exact OpenSpec.preRow_of_cond 8 hx (by kernel_rfl) (fun k hk => by cases hk) (by kernel_rfl) (laid_met os _)

set_option maxRecDepth 100000 in
theorem lifted (os : Os) (started : os.Started) (H : Type) (enc : TypeId × Value → H) (F : Stop.Interp) :
    ReturnsInHanded {} Tryd.checked os 3 .any ((OpenSpec.ofChange Rows.fnCosEvenPythagorasSpec).preRow enc Tryd.prog Tryd.f3 Rows.fnCosEvenPythagorasRow.domain false Rows.fnCosEvenPythagorasRow.laid) (((OpenSpec.ofChange Rows.fnCosEvenPythagorasSpec).at F).post enc Tryd.prog Tryd.f3 false true false false) := by
  refine returnsInHanded_of_row (C := Tryd.checked) (s := OpenSpec.ofChange Rows.fnCosEvenPythagorasSpec) own started (by kernel_rfl) Tryd.func3
    (witness_row_atRef (enc := enc) (C := Tryd.checked) false (laidWorld os) #[.float .f64 0] rfl (by kernel_rfl) (by kernel_rfl) (by kernel_rfl) (witness_row os enc)) ?_
  intro W base args ds gs before hval hW _ _ _ hL _ _
  exact contract H enc W base args ds gs before hval hW hL
set_option maxRecDepth 100000 in
theorem said : Rows.FnCosEvenPythagorasSaid :=
  OpenClaim.holds_of_cond 3 Tryd.f3 rfl rfl rfl rfl rfl rfl rfl ⟨rfl, rfl, rfl, rfl, rfl⟩ rfl rfl rfl rfl rfl (by as_aux_lemma => kernel_rfl) Tryd.func3 closed
    (of_decide_eq_true (by kernel_rfl)) (by unfold Func.isWrapper; first | (rw [if_pos (by decide +kernel)]; kernel_rfl) | (rw [if_neg (by decide +kernel)]; exact ⟨rfl, rfl⟩))
    (fun os started H enc _ F => by rw [OpenClaim.pre_eq_preRow]; exact lifted os started H enc F)
set_option maxRecDepth 100000 in
theorem plain (f : FuncId) (fn : Func) (hf : Tryd.pinned.checked.prog.funcNamed "github.com/evanw/esbuild/n011_268.FnCosEvenPythagoras" = some f) (hfn : Tryd.pinned.checked.prog.funcs[f]? = some fn) :
    false = Tryd.pinned.checked.prog.looks [] ∧ ∀ (j : Nat) t, fn.params[j]? = some t → Tryd.pinned.checked.prog.wantsStandIn t = false := by
  obtain rfl : f = 3 := Option.some.inj ((show Tryd.prog.funcNamed "github.com/evanw/esbuild/n011_268.FnCosEvenPythagoras" = some 3 by kernel_rfl).symm.trans hf) |>.symm
  obtain rfl : fn = Tryd.f3 := (Option.some.inj (Tryd.func3.symm.trans hfn)).symm
  refine ⟨by kernel_rfl, fun j t ht => ?_⟩
  rw [Tryd.params3] at ht
  have hm : t ∈ [22] := by simpa using Array.mem_of_getElem? ht
  have hall : ([22].all fun u => !Tryd.prog.wantsStandIn u) = true := by kernel_rfl
  exact (show Tryd.prog.wantsStandIn t = false by simpa using List.all_eq_true.1 hall t hm)
set_option maxRecDepth 100000 in
theorem proved : Rows.FnCosEvenPythagorasCardSaid :=
  Claim7.holds_tied_plain_at .later [] _ _ _ _ said (fun _ h => by cases h) (by kernel_rfl) (fun _ h => by cases h) fnCosEvenPythagoras_row_tie rfl ⟨rfl, rfl⟩ (by kernel_rfl) rfl plain (by kernel_rfl)
#print axioms proved
end Go.Proofs.YtknidlahblfnnaaDoor.fnCosEvenPythagoras


