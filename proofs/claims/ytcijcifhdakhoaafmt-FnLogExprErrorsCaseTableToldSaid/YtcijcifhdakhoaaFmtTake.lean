/-
  A quiet call of a Go function may be taken first in a region whose order is drawn. No condition.
-/
import Derived.Test.YtcijcifhdakhoaaFmtRows
import Derived.Deep.RegionHeld3
import Derived.StillTailTactics
namespace Go.Proofs.YtcijcifhdakhoaaFmt.Take
open Go

section
variable {P : Program} {ops : Array Oper} {Q : Exit → Act → World → Prop} {md : Region.Mode} {S : World → Prop}

/-- In every world that meets S the operation enters a function that hands back v and leaves the world alone. -/
def Asks (P : Program) (ops : Array Oper) (S : World → Prop) (o : Oper) (v : Value) (a : Act) : Prop :=
  Region.wanted o (yielded ops a.tmps) = true ∧ ∀ w, S w → ∃ f args, (execOp a.eval o).run P w = .ok (.enter f args) w ∧ Calls P f args w (fun e w' => e = .returned v ∧ w' = w)
/-- What an operation's own put and a deferral leave standing holds behind the operation too. -/
theorem stays {Y : Act → Prop} {j : Nat} {oj : Oper} (hj : ops[j]? = some oj) (hp : ∀ a u, Y a → Y (a.put oj.dst u)) (hd : ∀ (a : Act) d, Y a → Y { a with defers := d :: a.defers })
    {K : Act → World → Prop} {a : Act} {w : World} (hy : Y a) (h : wpOp P ops Q j K a w) : wpOp P ops Q j (fun a' w' => Y a' ∧ K a' w') a w := by
  unfold wpOp at *
  simp only [hj] at *
  split
  · rename_i hw
    simp only [hw, if_true] at h
    refine h.imp (fun h => ?_) id
    unfold Oper.wp at *
    cases hr : (execOp a.eval oj).run P w with
    | halt x w' =>
      rw [hr] at h
      cases x <;> first | exact h | cases h
    | ok n w' =>
      rw [hr] at h
      cases n <;> simp only [Oper.upon] at h ⊢
      case value u => exact ⟨hp _ _ hy, h⟩
      case skip => exact ⟨hp _ _ hy, h⟩
      case defer d => exact ⟨hp _ _ (hd _ _ hy), h⟩
      case enter f args =>
        refine Calls.mono h fun e w'' he => ?_
        cases e <;> first | exact ⟨hp _ _ hy, he⟩ | exact he
      case row row args => exact Rows.mono h fun u w'' he => ⟨hp _ _ hy, he⟩
  · rename_i hw
    simp only [hw] at h
    exact ⟨hp _ _ hy, h⟩
theorem Asks.wpOp {i : Nat} {o : Oper} {v : Value} {a : Act} (hi : ops[i]? = some o) (hy : Asks P ops S o v a) {K : Act → World → Prop} {w : World} (hS : S w) (h : K (a.put o.dst v) w) : wpOp P ops Q i K a w := by
  obtain ⟨hw, hv⟩ := hy
  obtain ⟨f, args, hr, hc⟩ := hv w hS
  unfold Go.wpOp
  simp only [hi, hw, if_true, Oper.wp, hr, Oper.upon]
  refine .inl (Calls.mono hc fun e w' he => ?_)
  obtain ⟨rfl, rfl⟩ := he
  exact h
theorem Asks.kept {i j : Nat} {o oj : Oper} {v : Value} (hs : ∀ cs b, o.op ≠ .select cs b) (hj : ops[j]? = some oj) (hap : o.apart ops oj = true) {K : Act → World → Prop} {a : Act} {w : World} (hsj : ∀ cs b, oj.op ≠ .select cs b)
    (hQ : ∀ c a w, Q (.panic c) (a.put o.dst v) w → Q (.panic c) a w) (hy : Asks P ops S o v a) (h : Go.wpOp P ops Q j K (a.put o.dst v) w) : Go.wpOp P ops Q j (fun a' w' => Asks P ops S o v a' ∧ K (a'.put o.dst v) w') a w := by
  obtain ⟨h1, h2, h3⟩ := Oper.apart_spec hap
  have hz : YieldsIf P ops (fun _ => False) o v a := .inl ⟨hy.1, fun _ h => h.elim⟩
  have hK := wpOp_putIf hj hap hs hsj hQ hz h
  refine wpOp_mono (fun a' w' hh => ⟨hh.1, hh.2.2⟩) (stays (Y := Asks P ops S o v) hj (fun a u ha => ?_) (fun a d ha => ha) hy hK)
  unfold Asks at *
  rw [execOp_put o hs a oj.dst u h3, wanted_put o a oj.dst u h3]
  exact ha
theorem take_first {i : Nat} {oi : Oper} {v : Value} (hi : ops[i]? = some oi) (hsel : ∀ (j : Nat) (o : Oper) cs b, ops[j]? = some o → o.op ≠ .select cs b) (hQ : ∀ c a w, Q (.panic c) (a.put oi.dst v) w → Q (.panic c) a w) :
    ∀ (fuel : Nat) (listed : Array Bool) (a : Act) (w : World), Region.free md ops listed i = true → i ∈ Region.ready md ops listed → Asks P ops S oi v a → S w →
      wpAnyH P md ops Q S fuel (listed.setIfInBounds i true) (a.put oi.dst v) w → wpAnyH P md ops Q S (fuel + 1) listed a w
  | 0, listed, a, w, _, hr, hy, hS, H => by
    refine ⟨fun h => (by rw [h] at hr; cases hr), fun j hj => ?_⟩
    by_cases hji : j = i
    · subst hji; exact hy.wpOp hi hS ⟨hS, H⟩
    · have := ready_mono hj hji
      rw [H.1] at this
      cases this
  | fuel + 1, listed, a, w, hf, hr, hy, hS, H => by
    refine ⟨fun h => (by rw [h] at hr; cases hr), fun j hj => ?_⟩
    by_cases hji : j = i
    · subst hji; exact hy.wpOp hi hS ⟨hS, H⟩
    obtain ⟨hjun, oj, hoj, hall⟩ := mem_ready.1 hj
    have hij : listed.getD i false = false := getD_both (mem_ready.1 hr).1
    have hnot : ∀ e ∈ oj.after, Region.binds md e = true → e.on ≠ i := fun e he hb heq => by
      have := hall e he hb
      rw [heq, hij] at this
      cases this
    have hap := Region.free_spec hi hf j oj hoj hji hjun hnot
    have hfree : Region.free md ops (listed.setIfInBounds j true) i = true := by
      unfold Region.free at hf ⊢
      rw [hi] at hf ⊢
      simp only [List.all_eq_true, List.mem_range] at hf ⊢
      intro k hk
      have := hf k hk
      by_cases hjk : j = k
      · subst hjk
        have hlt : j < listed.size := by
          rcases Nat.lt_or_ge j listed.size with h | h
          · exact h
          · simp [Array.getD_eq_getD_getElem?, Array.getElem?_eq_none h] at hjun
        simp [Array.getD_eq_getD_getElem?, Array.getElem?_setIfInBounds_self_of_lt hlt]
      · rw [getD_set_ne true hjk]
        exact this
    have h2 := Asks.kept (i := i) (fun cs b => hsel i oi cs b hi) hoj hap (fun cs b => hsel j oj cs b hoj) hQ hy (H.2 j (ready_mono hj hji))
    refine wpOp_mono (fun a' w' h3 => ⟨h3.2.1, take_first hi hsel hQ fuel (listed.setIfInBounds j true) a' w' hfree (ready_mono hr (Ne.symm hji)) h3.1 h3.2.1 ?_⟩) h2
    rw [Array.setIfInBounds_comm _ _ hji]
    exact h3.2.2
theorem take_call {i : Nat} {oi : Oper} {v : Value} {fuel : Nat} {listed : Array Bool} {a : Act} {w : World} (hi : ops[i]? = some oi) (hs : Region.noSelect ops = true) (hf : Region.free md ops listed i = true)
    (hr : (Region.ready md ops listed).contains i = true) (hQ : ∀ c a w, Q (.panic c) (a.put oi.dst v) w → Q (.panic c) a w) (hy : Asks P ops S oi v a) (hS : S w)
    (h : wpAnyH P md ops Q S fuel (listed.setIfInBounds i true) (a.put oi.dst v) w) : wpAnyH P md ops Q S (fuel + 1) listed a w :=
  take_first hi (Region.noSelect_spec hs) hQ fuel listed a w hf (by simpa using hr) hy hS h
/-- The same two with the temporary said. -/
theorem take_callD {i : Nat} {oi : Oper} {v : Value} {fuel : Nat} {listed : Array Bool} {a : Act} {w : World} (d : Option Tmp) (hi : ops[i]? = some oi) (hd : oi.dst = d) (hs : Region.noSelect ops = true) (hf : Region.free md ops listed i = true)
    (hr : (Region.ready md ops listed).contains i = true) (hQ : ∀ c a w, Q (.panic c) (a.put d v) w → Q (.panic c) a w) (hy : Asks P ops S oi v a) (hS : S w)
    (h : wpAnyH P md ops Q S fuel (listed.setIfInBounds i true) (a.put d v) w) : wpAnyH P md ops Q S (fuel + 1) listed a w := by
  subst hd
  exact take_call hi hs hf hr hQ hy hS h
theorem takeD {i : Nat} {oi : Oper} {v : Value} {fuel : Nat} {listed : Array Bool} {a : Act} {w : World} (d : Option Tmp) (hi : ops[i]? = some oi) (hd : oi.dst = d) (hs : Region.noSelect ops = true) (hf : Region.free md ops listed i = true)
    (hr : (Region.ready md ops listed).contains i = true) (hQ : ∀ c a w, Q (.panic c) (a.put d v) w → Q (.panic c) a w) (hy : YieldsIf P ops S oi v a) (hS : S w)
    (h : wpAnyH P md ops Q S fuel (listed.setIfInBounds i true) (a.put d v) w) : wpAnyH P md ops Q S (fuel + 1) listed a w := by
  subst hd
  exact wpAnyH_take hi hs hf hr hQ hy hS h
end
end Go.Proofs.YtcijcifhdakhoaaFmt.Take
