/-
  The frame of the proof of FnKeepExprSymbolNameSpec: for every input the call returns true, each argument and the listed variable read as before; the card ties the variable to the program's text. Condition: the row's own (the variable starts as its initialiser lays it). Written by a program (gen_door.py).
-/
import Derived.Test.YtacekiapcipidaaDoorKeepExprSymbolNameSpecWalk
import Derived.Test.YtacekiapcipidaaDoorCards
import Derived.Test.YtacekiapcipidaaDoorTie
import Derived.ProofKit
import Derived.OpenShut
import Derived.ShutString
import Derived.ChangeOld
import Derived.Below
import Derived.Laws.Cover2
import Derived.OpenVars
import Derived.LaidMore
import Derived.Deep.DeepHandedRow
import Derived.SevenTiedAt
import Derived.Test.YtacekiapcipidaaDoorFacts
namespace Go.Proofs.YtacekiapcipidaaDoor.fnKeepExprSymbolNameSpec
open Go.ChangeShapes Go.WideShapes Go.ChangeAt Go.RowKit
open Go.ChangeMaps (open_string shut_string)
set_option linter.unusedVariables false

theorem own : ownKnob Tryd.prog.godebug = none := Facts.own
theorem laidOut : laidOutB Tryd.prog = true := Facts.laidOut
set_option maxRecDepth 100000 in
set_option maxHeartbeats 4000000 in
theorem closed : joinedFacts Tryd.prog 3 Tryd.f3 Rows.fnKeepExprSymbolNameSpecSpec Rows.fnKeepExprSymbolNameSpecRow = true := by
  unfold joinedFacts
  repeat' (with_reducible refine Facts.and_mk ?_ ?_)
  all_goals first | (with_reducible exact Facts.laidOut) | (with_reducible exact Facts.rowed) | (with_reducible exact Facts.enter) | (with_reducible exact Facts.heard) | (as_aux_lemma => kernel_rfl)
theorem gG : Tryd.prog.globalNamed "github.com/evanw/esbuild/internal/ast.InvalidRef" = some 0 := by kernel_rfl
theorem gT : (Tryd.prog.globals[0]?).map (·.type) = some 53 := by kernel_rfl
theorem c32 : Tryd.prog.cellsOf 51 = 1 := by kernel_rfl
theorem cG : Tryd.prog.cellsOf 53 = 2 := by kernel_rfl
set_option maxRecDepth 100000 in
theorem of_laid {W : World} (h : laidMetH Tryd.prog Rows.fnKeepExprSymbolNameSpecRow.laid W) : Gl W := by
  rw [MakeChecks.laidMetH_plain _ _ _ (by kernel_rfl)] at h
  obtain ⟨ps, ⟨g, t, cs, fuel, p, q, hg, ht, hv, hd, _, _⟩, _, _⟩ := h
  obtain rfl := Option.some.inj (gG.symm.trans hg)
  obtain rfl := Option.some.inj (gT.symm.trans ht)
  have hl : cs.toList = [.int .u32 4294967295, .int .u32 4294967295] := by
    obtain ⟨y0, y1, m, ex, hlen, h0, h1⟩ := trod_struct2 Tryd.underlying53 hd
    rw [cG] at hlen
    match hcs : cs.toList, hlen with
    | [a, b], _ =>
      rw [hcs, c32] at h0 h1
      obtain ⟨n0, l0, rfl, _⟩ := DataW.trod_int Tryd.underlying51 h0
      obtain ⟨n1, l1, rfl, _⟩ := DataW.trod_int Tryd.underlying51 h1
      have l0' : [a] = [Value.int .u32 n0] := l0
      have l1' : [b] = [Value.int .u32 n1] := l1
      have ex' := congrArg Prod.fst ex
      simp [Rows.laid_github_com_evanw_esbuild_internal_ast_InvalidRef] at ex' l0' l1'
      obtain ⟨rfl, rfl⟩ := ex'
      rw [l0', l1']
  have h0 := World.var?_cell hg hv 0
  have h1 := World.var?_cell hg hv 1
  have e0 : cs[0]? = some (.int .u32 4294967295) := by rw [← Array.getElem?_toList, hl]; rfl
  have e1 : cs[1]? = some (.int .u32 4294967295) := by rw [← Array.getElem?_toList, hl]; rfl
  exact ⟨h0.trans e0, h1.trans e1⟩

set_option maxRecDepth 100000 in
theorem contract (H : Type) (enc : TypeId × Value → H) (W : World) (base : Nat) (args : Array Value) (ds gs : List (DataW H)) (before : List MemPlace)
    (hval0 : ∀ (j : Nat) t v, Tryd.f3.params[j]? = some t → args[j]? = some v → Value.okWide Tryd.prog W .any base t v)
    (hW : DataW.Whole enc Tryd.prog Tryd.f3.params.toList Rows.fnKeepExprSymbolNameSpecSpec.vars false W args.toList ds gs before) (hL : laidMetH Tryd.prog Rows.fnKeepExprSymbolNameSpecRow.laid W) :
    Calls Tryd.prog 3 args W fun e W' => ∃ v, e = .returned v ∧ Rows.fnKeepExprSymbolNameSpecSpec.post enc Tryd.prog Tryd.f3 false true false false W args v W' := by
  have hval : ∀ (j : Nat) t v, Tryd.f3.params[j]? = some t → args[j]? = some v → Value.okWide Tryd.prog W .any base t v := hval0
  have hW' := hW
  obtain ⟨p, q, hA0, hV, rfl, hfz, hnd⟩ := hW
  have hA : DataW.TrodAll enc Tryd.prog W 0 (fun _ => true) true Tryd.f3.params.toList args.toList ds p := hA0
  rw [Tryd.params3] at hA hval
  obtain ⟨v0, vs0, d0, ds0, p0, q0, hargs, rfl, rfl, h0, r0⟩ := trodAll_cons hA
  obtain ⟨v1, vs1, d1, ds1, p1, q1, rfl, rfl, rfl, h1, r1⟩ := trodAll_cons r0
  obtain ⟨v2, vs2, d2, ds2, p2, q2, rfl, rfl, rfl, h2, r2⟩ := trodAll_cons r1
  obtain ⟨rfl, rfl, rfl⟩ := trodAll_nil r2
  obtain rfl : args = #[v0, v1, v2] := by cases args; simp_all
  obtain ⟨gn, gt, gcs, gfuel, dG, pG, rfl, _, _, _, _, _⟩ := trodVars_one (show DataW.TrodVars enc Tryd.prog W (fun _ => true) ["github.com/evanw/esbuild/internal/ast.InvalidRef"] gs q from hV)
  obtain ⟨a0, rfl, rfl, rfl, w0⟩ := open_int Tryd.underlying21 (hval 0 21 v0 rfl rfl) h0
  obtain ⟨a1, rfl, rfl, rfl, w1⟩ := open_float Tryd.underlying22 (hval 1 22 v1 rfl rfl) h1
  obtain ⟨a2, rfl, rfl, rfl, w2⟩ := open_string Tryd.underlying9 (hval 2 9 v2 rfl rfl) h2
  clear hA0
  refine (walk W a0 w0 a1 w1 a2 w2 (of_laid hL)).mono fun e W' ⟨he, bel⟩ => ?_
  subst he
  exact ⟨_, rfl, _, _, _, [], _, _, hW', trodAll_mk1 (shut_bool Tryd.underlying4 _), (trodAll_cons_mk (shut_int Tryd.underlying21 w0) (trodAll_cons_mk (shut_float Tryd.underlying22 w1) (trodAll_cons_mk (shut_string Tryd.underlying9 w2) trodAll_mk0))), Below.trodVars laidOut bel (by kernel_rfl) hV, bel.frame _, fun h => by cases h⟩

noncomputable def laidWorld (os : Os) : World :=
  { World.holding Tryd.prog os ⟨#[], #[], []⟩ with heap := (World.holding Tryd.prog os ⟨#[], #[], []⟩).heap.modify 0 fun
      | .cells _ t frozen => .cells #[.int .u32 4294967295, .int .u32 4294967295] t frozen
      | o => o }
set_option maxRecDepth 100000 in
theorem laid_met (os : Os) : laidMet Tryd.prog Rows.fnKeepExprSymbolNameSpecRow.laid ((laidWorld os).forCall (fun _ _ => 0) ⟨#[], #[.int .i32 0, .float .f64 0, .string ByteArray.empty], []⟩).memory :=
  laidMet_of_run' 8 (by kernel_rfl) (by kernel_rfl)
set_option maxRecDepth 100000 in
theorem reads (os : Os) {H : Type} (enc : TypeId × Value → H) : ∃ places, DataW.whole enc Tryd.prog ((laidWorld os).forCall (fun _ _ => 0) ⟨#[], #[.int .i32 0, .float .f64 0, .string ByteArray.empty], []⟩).memory Tryd.f3.params.toList Rows.fnKeepExprSymbolNameSpecSpec.vars false #[.int .i32 0, .float .f64 0, .string ByteArray.empty].toList 8 = some ([.lit (.int .i32 0), .lit (.float .f64 0), .lit (.string [])], [.agg [.lit (.int .u32 4294967295), .lit (.int .u32 4294967295)]], places) :=
  ⟨[.cell 0 0, .cell 0 1], by kernel_rfl⟩

set_option maxRecDepth 100000 in
theorem lifted (os : Os) (started : os.Started) (H : Type) (enc : TypeId × Value → H) (F : Stop.Interp) :
    ReturnsInHanded {} Tryd.checked os 3 .any ((OpenSpec.ofChange Rows.fnKeepExprSymbolNameSpecSpec).preRow enc Tryd.prog Tryd.f3 Rows.fnKeepExprSymbolNameSpecRow.domain false Rows.fnKeepExprSymbolNameSpecRow.laid) (((OpenSpec.ofChange Rows.fnKeepExprSymbolNameSpecSpec).at F).post enc Tryd.prog Tryd.f3 false true false false) := by
  obtain ⟨places, hx⟩ := reads os enc
  refine returnsInHanded_of_row (C := Tryd.checked) (s := OpenSpec.ofChange Rows.fnKeepExprSymbolNameSpecSpec) own started (by kernel_rfl) Tryd.func3
    (witness_row_at (enc := enc) (C := Tryd.checked) false (laidWorld os) #[.int .i32 0, .float .f64 0, .string ByteArray.empty] rfl (by kernel_rfl) (by kernel_rfl) (by kernel_rfl)
      (OpenSpec.preRow_of_cond 8 hx (by kernel_rfl) (fun k hk => by cases hk) (by kernel_rfl) (laid_met os))) ?_
  intro W base args ds gs before hval hW _ _ _ hL _ _
  exact contract H enc W base args ds gs before hval hW hL
set_option maxRecDepth 100000 in
theorem said : Rows.FnKeepExprSymbolNameSpecSaid :=
  OpenClaim.holds_of_cond 3 Tryd.f3 rfl rfl rfl rfl rfl rfl rfl ⟨rfl, rfl, rfl, rfl, rfl⟩ rfl rfl rfl rfl rfl (by as_aux_lemma => kernel_rfl) Tryd.func3 closed
    (of_decide_eq_true (by kernel_rfl)) (by unfold Func.isWrapper; first | (rw [if_pos (by decide +kernel)]; kernel_rfl) | (rw [if_neg (by decide +kernel)]; exact ⟨rfl, rfl⟩))
    (fun os started H enc _ F => by rw [OpenClaim.pre_eq_preRow]; exact lifted os started H enc F)
set_option maxRecDepth 100000 in
theorem plain (f : FuncId) (fn : Func) (hf : Tryd.pinned.checked.prog.funcNamed "github.com/evanw/esbuild/n011_239.FnKeepExprSymbolNameSpec" = some f) (hfn : Tryd.pinned.checked.prog.funcs[f]? = some fn) :
    true = Tryd.pinned.checked.prog.looks [] ∧ ∀ (j : Nat) t, fn.params[j]? = some t → Tryd.pinned.checked.prog.wantsStandIn t = false := by
  obtain rfl : f = 3 := Option.some.inj ((show Tryd.prog.funcNamed "github.com/evanw/esbuild/n011_239.FnKeepExprSymbolNameSpec" = some 3 by kernel_rfl).symm.trans hf) |>.symm
  obtain rfl : fn = Tryd.f3 := (Option.some.inj (Tryd.func3.symm.trans hfn)).symm
  refine ⟨by kernel_rfl, fun j t ht => ?_⟩
  rw [Tryd.params3] at ht
  have hm : t ∈ [21, 22, 9] := by simpa using Array.mem_of_getElem? ht
  have hall : ([21, 22, 9].all fun u => !Tryd.prog.wantsStandIn u) = true := by kernel_rfl
  exact (show Tryd.prog.wantsStandIn t = false by simpa using List.all_eq_true.1 hall t hm)
set_option maxRecDepth 100000 in
theorem proved : Rows.FnKeepExprSymbolNameSpecCardSaid :=
  Claim7.holds_tied_plain_at .later [] _ _ _ _ said (fun _ h => by cases h) (by kernel_rfl) (fun _ h => by cases h) fnKeepExprSymbolNameSpec_row_tie rfl ⟨rfl, rfl⟩ (by kernel_rfl) rfl plain (by kernel_rfl)
#print axioms proved
end Go.Proofs.YtacekiapcipidaaDoor.fnKeepExprSymbolNameSpec

