/-
  A cheap check for a long chain of reads with a forced tail: it implies the kit's Region.lexTailB. No condition.
-/
import Derived.Test.YtimmcjjkfhambaaRows
import Derived.StillTailTactics
namespace Go.Proofs.Ytimmcjjkfhambaa.Lex
open Go

def waits (o : Oper) (i : Nat) : Bool := o.after.any fun e => Region.binds .any e && e.on == i
def depsB : List Oper → Nat → Bool
  | [], _ => true
  | o :: r, k => o.after.all (fun e => decide (e.on < k)) && depsB r (k + 1)
def freeB (ops : Array Oper) : List Oper → Nat → Nat → Bool
  | _, _, 0 => true
  | [], _, _ + 1 => true
  | o :: r, k, f + 1 => r.all (fun y => waits y k || o.apart ops y) && freeB ops r (k + 1) f
def sinkF : List Oper → Nat → Nat → Bool
  | _, _, 0 => true
  | [], _, _ + 1 => false
  | o :: r, k, f + 1 => (r.take (f + 1)).any (fun y => waits y k) && sinkF r (k + 1) f
def fastB (l : List Oper) (n : Nat) : Bool :=
  Region.noSelect l.toArray && decide (n < l.length) && sinkF l 0 n && Region.chainB .any l.toArray n && depsB l 0 && freeB l.toArray l 0 n

theorem waitsFor_of {l : List Oper} {j i : Nat} {y : Oper} (hj : l[j]? = some y) (h : waits y i = true) : Region.waitsFor .any l.toArray j i = true := by
  unfold Region.waitsFor
  rw [List.getElem?_toArray, hj]
  exact h
theorem waits_of {l : List Oper} {j i : Nat} {y : Oper} (hj : l[j]? = some y) (h : Region.waitsFor .any l.toArray j i = true) : waits y i = true := by
  unfold Region.waitsFor at h
  rw [List.getElem?_toArray, hj] at h
  exact h
theorem deps_at : ∀ (l : List Oper) (k : Nat), depsB l k = true → ∀ (j : Nat) (o : Oper), l[j]? = some o → ∀ e ∈ o.after, e.on < k + j
  | [], _, _, j, o, hj => by simp at hj
  | x :: r, k, h, j, o, hj => by
    simp only [depsB, Bool.and_eq_true] at h
    match j, hj with
    | 0, hj =>
      simp at hj
      subst hj
      intro e he
      have := Array.all_eq_true_iff_forall_mem.1 h.1 e he
      simpa using this
    | j + 1, hj =>
      intro e he
      have := deps_at r (k + 1) h.2 j o (by simpa using hj) e he
      omega
theorem free_at (ops : Array Oper) : ∀ (l : List Oper) (k f : Nat), freeB ops l k f = true → ∀ (i j : Nat) (o y : Oper), i < f → i < j → l[i]? = some o → l[j]? = some y → (waits y (k + i) || o.apart ops y) = true
  | _, _, 0, _, i, j, o, y, hi, _, _, _ => by omega
  | [], _, _ + 1, _, i, j, o, y, _, _, ho, _ => by simp at ho
  | x :: r, k, f + 1, h, i, j, o, y, hi, hij, ho, hy => by
    simp only [freeB, Bool.and_eq_true, List.all_eq_true] at h
    obtain ⟨j', rfl⟩ : ∃ j', j = j' + 1 := ⟨j - 1, by omega⟩
    simp at hy
    match i, ho with
    | 0, ho =>
      simp at ho
      subst ho
      exact h.1 y (List.mem_of_getElem? hy)
    | i + 1, ho =>
      simp at ho
      have := free_at ops r (k + 1) f h.2 i j' o y (by omega) (by omega) ho hy
      rwa [show k + 1 + i = k + (i + 1) from by omega] at this
theorem sink_at : ∀ (l : List Oper) (k f : Nat), sinkF l k f = true → ∀ i, i < f → ∃ j y, i < j ∧ j ≤ f ∧ l[j]? = some y ∧ waits y (k + i) = true
  | _, _, 0, _, i, hi => by omega
  | [], _, _ + 1, h, i, hi => by simp [sinkF] at h
  | x :: r, k, f + 1, h, i, hi => by
    simp only [sinkF, Bool.and_eq_true, List.any_eq_true] at h
    match i with
    | 0 =>
      obtain ⟨y, hy, hw⟩ := h.1
      obtain ⟨j, hj⟩ := List.getElem?_of_mem hy
      have hlt : j < f + 1 := by
        rcases Nat.lt_or_ge j (f + 1) with h1 | h1
        · exact h1
        · rw [List.getElem?_eq_none (by simp; omega)] at hj
          cases hj
      rw [List.getElem?_take, if_pos hlt] at hj
      exact ⟨j + 1, y, by omega, by omega, by simpa using hj, by simpa using hw⟩
    | i + 1 =>
      obtain ⟨j, y, h1, h2, h3, h4⟩ := sink_at r (k + 1) f h.2 i (by omega)
      exact ⟨j + 1, y, by omega, by omega, by simpa using h3, by rwa [show k + (i + 1) = k + 1 + i from by omega]⟩
/-- The first k are listed, no other. -/
structure Listed (l : List Oper) (k : Nat) (listed : Array Bool) : Prop where
  size : listed.size = l.length
  at_ : ∀ j, j < l.length → listed[j]? = some (decide (j < k))
theorem Listed.set {l : List Oper} {k : Nat} {listed : Array Bool} (h : Listed l k listed) : Listed l (k + 1) (listed.setIfInBounds k true) := by
  refine ⟨by simp [h.size], fun j hj => ?_⟩
  by_cases hjk : k = j
  · subst hjk
    rw [Array.getElem?_setIfInBounds_self_of_lt (by rw [h.size]; exact hj)]
    simp
  · rw [Array.getElem?_setIfInBounds_ne hjk, h.at_ j hj]
    congr 1
    exact decide_eq_decide.2 (by omega)
theorem Listed.gf {l : List Oper} {k : Nat} {listed : Array Bool} (h : Listed l k listed) (j : Nat) : listed.getD j false = decide (j < k ∧ j < l.length) := by
  rcases Nat.lt_or_ge j l.length with hj | hj
  · rw [Array.getD_eq_getD_getElem?, h.at_ j hj]
    simp [hj]
  · rw [Array.getD_eq_getD_getElem?, Array.getElem?_eq_none (by rw [h.size]; exact hj)]
    simp; omega
theorem Listed.gt {l : List Oper} {k : Nat} {listed : Array Bool} (h : Listed l k listed) (j : Nat) : listed.getD j true = decide (j < k ∨ l.length ≤ j) := by
  rcases Nat.lt_or_ge j l.length with hj | hj
  · rw [Array.getD_eq_getD_getElem?, h.at_ j hj]
    simp [Nat.not_le.2 hj]
  · rw [Array.getD_eq_getD_getElem?, Array.getElem?_eq_none (by rw [h.size]; exact hj)]
    simp [hj]
theorem ready_self {l : List Oper} {k : Nat} {listed : Array Bool} (hd : depsB l 0 = true) (h : Listed l k listed) (hk : k < l.length) : k ∈ Region.ready .any l.toArray listed := by
  refine mem_ready.2 ⟨by rw [h.gt]; simp; omega, l[k], by simp [hk], fun e he _ => ?_⟩
  rw [h.gf]
  have := deps_at l 0 hd k l[k] (by simp [hk]) e he
  simp; omega
theorem free_self {l : List Oper} {n k : Nat} {listed : Array Bool} (hf : freeB l.toArray l 0 n = true) (h : Listed l k listed) (hk : k < n) (hkl : k < l.length) : Region.free .any l.toArray listed k = true := by
  have h0 : l.toArray[k]? = some l[k] := by simp [hkl]
  unfold Region.free
  rw [h0]
  simp only [List.all_eq_true, List.mem_range]
  intro j hj
  rw [h.gt]
  by_cases h1 : j = k
  · simp [h1]
  by_cases h2 : j < k
  · simp [h2]
  have hjl : j < l.length := by simpa using hj
  have hjs : l.toArray[j]? = some l[j] := by simp [hjl]
  rw [hjs]
  have := free_at l.toArray l 0 n hf k j l[k] l[j] hk (by omega) (by simp [hkl]) (by simp [hjl])
  rw [Nat.zero_add] at this
  simp only [waits] at this
  rw [Bool.or_eq_true]
  exact .inr this
theorem seq_of {l : List Oper} {n : Nat} (hd : depsB l 0 = true) (hc : Region.chainB .any l.toArray n = true) : ∀ (g k : Nat) (listed : Array Bool), k + g = l.length → n ≤ k → Listed l k listed → Region.seqB .any l.toArray g k listed = true
  | 0, k, listed, hk, _, h => by
    simp only [Region.seqB, List.isEmpty_iff]
    refine List.eq_nil_iff_forall_not_mem.2 fun i hi => ?_
    obtain ⟨h1, o, ho, _⟩ := mem_ready.1 hi
    rw [h.gt] at h1
    have : i < l.length := by
      rcases Nat.lt_or_ge i l.length with hh | hh
      · exact hh
      · rw [Array.getElem?_eq_none (by simpa using hh)] at ho; cases ho
    simp at h1
    omega
  | g + 1, k, listed, hk, hn, h => by
    have hkl : k < l.length := by omega
    simp only [Region.seqB, Bool.and_eq_true, decide_eq_true_eq]
    refine ⟨?_, seq_of hd hc g (k + 1) _ (by omega) (by omega) h.set⟩
    have hself := ready_self hd h hkl
    have honly : ∀ i ∈ Region.ready .any l.toArray listed, i = k := fun i hi => by
      obtain ⟨h1, o, ho, hall⟩ := mem_ready.1 hi
      rw [h.gt] at h1
      have hil : i < l.length := by
        rcases Nat.lt_or_ge i l.length with hh | hh
        · exact hh
        · rw [Array.getElem?_eq_none (by simpa using hh)] at ho; cases ho
      simp at h1
      by_cases hik : i = k
      · exact hik
      · exfalso
        have hcc := List.all_eq_true.1 hc i (by simpa using hil)
        simp only [Bool.or_eq_true, decide_eq_true_eq] at hcc
        rcases hcc with hcc | hcc
        · omega
        · obtain ⟨o', ho', e, he, hb, hon⟩ := Region.waitsFor_spec hcc
          have : o' = o := Option.some.inj (ho'.symm.trans ho)
          subst this
          have h2 := hall e he hb
          rw [h.gf, hon] at h2
          simp at h2
          omega
    have hnd : (Region.ready .any l.toArray listed).Nodup := List.Nodup.sublist List.filter_sublist List.nodup_range
    generalize Region.ready .any l.toArray listed = R at *
    match R, hself, honly, hnd with
    | [], hs, _, _ => cases hs
    | [x], hs, ho, _ => rw [ho x (by simp)]
    | x :: y :: r, hs, ho, hnd =>
      have e1 := ho x (by simp)
      have e2 := ho y (by simp)
      simp [e1, e2] at hnd
theorem head_of {l : List Oper} {n g : Nat} (hd : depsB l 0 = true) (hf : freeB l.toArray l 0 n = true) (hc : Region.chainB .any l.toArray n = true) (hg : n + g = l.length) : ∀ (f k : Nat) (listed : Array Bool), k + f = n → Listed l k listed → Region.lexHead .any l.toArray g f k listed = true
  | 0, k, listed, hk, h => by
    have : k = n := by omega
    subst this
    exact seq_of hd hc g k listed hg (Nat.le_refl _) h
  | f + 1, k, listed, hk, h => by
    simp only [Region.lexHead, Bool.and_eq_true]
    exact ⟨⟨by simpa using ready_self hd h (by omega), free_self hf h (by omega) (by omega)⟩, head_of hd hf hc hg f (k + 1) _ (by omega) h.set⟩
theorem lex_of_fast (l : List Oper) (n : Nat) (h : fastB l n = true) : Region.lexTailB .any l.toArray n = true := by
  simp only [fastB, Bool.and_eq_true, decide_eq_true_eq] at h
  obtain ⟨⟨⟨⟨⟨h1, h2⟩, h3⟩, h4⟩, h5⟩, h6⟩ := h
  simp only [Region.lexTailB, Bool.and_eq_true, decide_eq_true_eq]
  refine ⟨⟨⟨⟨h1, by simpa using h2⟩, ?_⟩, h4⟩, ?_⟩
  · unfold Region.sinkB
    rw [List.all_eq_true]
    intro i hi
    rw [List.any_eq_true]
    obtain ⟨j, y, a, b, c, d⟩ := sink_at l 0 n h3 i (List.mem_range.1 hi)
    exact ⟨j, List.mem_range.2 (by omega), by simp only [Bool.and_eq_true, decide_eq_true_eq]; exact ⟨a, waitsFor_of c (by rwa [Nat.zero_add] at d)⟩⟩
  · rw [show l.toArray.size = l.length from by simp]
    exact head_of h5 h6 h4 (by omega) n 0 _ (by omega) ⟨by simp, fun j hj => by simp [hj]⟩
end Go.Proofs.Ytimmcjjkfhambaa.Lex
