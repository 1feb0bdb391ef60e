/-
  The walk of FnGetOrCreateNamespaceMembersMergeScript: it returns true for every name, every two numbers and both flags. No condition.
-/
import Derived.Test.YtihpdmoonddjmaaNsBuild
namespace Go.Proofs.Ytihpdmoonddjmaa.fnGetOrCreateNamespaceMembersMergeScript
open Go.RowKit Go.Proofs.Ytihpdmoonddjmaa.Ints Go.Proofs.Ytihpdmoonddjmaa.MapX Go.Proofs.Ytihpdmoonddjmaa.Ns

theorem run_len {b c : Nat} {es : Array MapEntry} {w : World} (ty : TypeId) (hb : w.heap[b]? = some (.map es c)) : (Builtin.len_ #[24] ty #[.map (some b)]).run Try.prog w = .ok (.int .i64 es.size) w := by
  simp [Builtin.len_, run_underlying Try.underlying24, MapKept.run_getObj_map hb, goInt]
theorem st1_put {w : World} {M R x c c' : Nat} {nm : ByteArray} {s : Option Nat} {es es' : Array MapEntry} (h : St1 w M R nm s) (hx : w.heap[x]? = some (.map es' c')) (hM : M ≠ x) (hR : R ≠ x) : St1 (putMap w x es c) M R nm s := by
  cases s with
  | some sib =>
    obtain ⟨h1, N, h2, h3⟩ := h
    exact ⟨(putMap_other hM).trans h1, N, (putMap_other hR).trans h2, (putMap_cell hx _).trans h3⟩
  | none =>
    rcases h with ⟨ot, hne, h1⟩ | ⟨h1, h2 | ⟨N, h2⟩⟩
    · exact .inl ⟨ot, hne, (putMap_other hM).trans h1⟩
    · exact .inr ⟨(putMap_other hM).trans h1, .inl ((putMap_other hR).trans h2)⟩
    · exact .inr ⟨(putMap_other hM).trans h1, .inr ⟨N, (putMap_other hR).trans h2⟩⟩
theorem st2_put {w : World} {B0 x c c' : Nat} {tv : Value} {nm : ByteArray} {s : Option Nat} {es es' : Array MapEntry} (h : St2 w B0 tv nm s) (hx : w.heap[x]? = some (.map es' c')) (hE : ∀ E o, B0 ≤ E → w.heap[E]? = some o → E ≠ x ∨ o = .map #[] 0) : St2 (putMap w x es c) B0 tv nm s := by
  have k : ∀ {E : Nat} {k v : Value}, B0 ≤ E → w.heap[E]? = some (one k v) → (putMap w x es c).heap[E]? = some (one k v) := fun {E k v} h0 h1 => by
    rcases hE E _ h0 h1 with hn | hn
    · exact (putMap_other hn).trans h1
    · cases hn
  cases s with
  | some par =>
    obtain ⟨T, E, N, h0, rfl, h1, h2, h3⟩ := h
    exact ⟨T, E, N, h0, rfl, (putMap_cell hx _).trans h1, k h0 h2, (putMap_cell hx _).trans h3⟩
  | none =>
    rcases h with rfl | ⟨T, E, h0, rfl, h1, ⟨ot, v, hne, h2⟩ | ⟨N, h2⟩⟩
    · exact .inl rfl
    · exact .inr ⟨T, E, h0, rfl, (putMap_cell hx _).trans h1, .inl ⟨ot, v, hne, k h0 h2⟩⟩
    · exact .inr ⟨T, E, h0, rfl, (putMap_cell hx _).trans h1, .inr ⟨N, k h0 h2⟩⟩
theorem st1_below {w w' : World} {M R : Nat} {nm : ByteArray} {s : Option Nat} (h : St1 w M R nm s) (hb : Below w.heap.size w w') : St1 w' M R nm s := by
  cases s with
  | some sib =>
    obtain ⟨h1, N, h2, h3⟩ := h
    exact ⟨bH hb h1, N, bH hb h2, bC hb h3⟩
  | none =>
    rcases h with ⟨ot, hne, h1⟩ | ⟨h1, h2 | ⟨N, h2⟩⟩
    · exact .inl ⟨ot, hne, bH hb h1⟩
    · exact .inr ⟨bH hb h1, .inl (bH hb h2)⟩
    · exact .inr ⟨bH hb h1, .inr ⟨N, bH hb h2⟩⟩

theorem first_facts {w w1 w2 W : World} {M R b : Nat} {nm : ByteArray} (a1 a4 : Bool) (a2 a3 : Int) (kS : W.heap[w.heap.size]? = some (.map #[] 0)) (kP : W.heap[w.heap.size + 1]? = some (.map #[] 0)) (B1 : Below W.heap.size W w1) (B2 : Below w1.heap.size w1 w2)
    (lM : W.heap.size ≤ M) (lR : W.heap.size ≤ R) (s1 : St1 w1 M R nm (s1Of a1 a2 w.heap.size)) (hRl : R < w1.heap.size)
    (hb : Gb w1.heap.size w2 b (pick a4 (s1Of a1 a2 w.heap.size) (pkOpt a3 (w.heap.size + 1)))) (hw : w.heap.size + 1 < W.heap.size) :
    w2.heap[b]? = some (.map #[] 0) ∧ M ≠ b ∧ R ≠ b ∧ (∀ E o, W.heap.size ≤ E → w2.heap[E]? = some o → E ≠ b ∨ o = .map #[] 0) := by
  have hM : M < w1.heap.size := by
    cases hs : s1Of a1 a2 w.heap.size with
    | some s => rw [hs] at s1; exact lt_of_heap s1.1
    | none =>
      rw [hs] at s1
      rcases s1 with ⟨_, _, h⟩ | ⟨h, _⟩ <;> exact lt_of_heap h
  have old : ∀ x, x = w.heap.size ∨ x = w.heap.size + 1 → b = x → w2.heap[b]? = some (.map #[] 0) ∧ M ≠ b ∧ R ≠ b ∧ (∀ E o, W.heap.size ≤ E → w2.heap[E]? = some o → E ≠ b ∨ o = .map #[] 0) := by
    rintro x hx rfl
    refine ⟨?_, by omega, by omega, fun E o hE _ => .inl (by omega)⟩
    rcases hx with rfl | rfl
    · exact bH B2 (bH B1 kS)
    · exact bH B2 (bH B1 kP)
  unfold Gb pick s1Of pkOpt at hb
  by_cases h1 : a1 = true ∧ a2 = 1
  · rw [if_pos h1] at hb
    exact old _ (.inl rfl) hb
  · rw [if_neg h1] at hb
    by_cases h4 : a4 = true
    · by_cases h3 : a3 = 2
      · simp only [h4, if_true, if_pos h3] at hb
        exact old _ (.inr rfl) hb
      · simp only [h4, if_true, if_neg h3] at hb
        exact ⟨hb.2, by omega, by omega, fun E o hE ho => by
          by_cases e : E = b
          · subst e; right; rw [hb.2] at ho; cases ho; rfl
          · exact .inl e⟩
    · simp only [h4] at hb
      exact ⟨hb.2, by have := hb.1; omega, by have := hb.1; omega, fun E o hE ho => by
          by_cases e : E = b
          · subst e; right; rw [hb.2] at ho; cases ho; rfl
          · exact .inl e⟩
theorem first_le {w w1 w2 W : World} {b : Nat} {a1 a4 : Bool} {a2 a3 : Int}
    (hb : Gb w1.heap.size w2 b (pick a4 (s1Of a1 a2 w.heap.size) (pkOpt a3 (w.heap.size + 1)))) (h1 : w.heap.size ≤ W.heap.size) (h2 : W.heap.size ≤ w1.heap.size) : w.heap.size ≤ b := by
  cases h : pick a4 (s1Of a1 a2 w.heap.size) (pkOpt a3 (w.heap.size + 1)) with
  | none => rw [h] at hb; have := hb.1; omega
  | some s =>
    rw [h] at hb
    have : s = w.heap.size ∨ s = w.heap.size + 1 := by
      unfold pick s1Of pkOpt at h
      split at h
      · rename_i q hq; split at hq <;> simp_all
      · split at h
        · split at h <;> simp_all
        · cases h
    have hb' : b = s := hb
    omega
theorem second {w w1 w2 X w3 : World} {b b2 : Nat} (a1 a4 : Bool) (a2 a3 : Int)
    (hb : Gb w1.heap.size w2 b (pick a4 (s1Of a1 a2 w.heap.size) (pkOpt a3 (w.heap.size + 1))))
    (hb2 : Gb X.heap.size w3 b2 (pick a4 (s1Of a1 a2 w.heap.size) (pkOpt a3 (w.heap.size + 1)))) :
    (((a1 && (a2 == 1)) || (a4 && (a3 == 2))) = true → b2 = b) ∧ (((a1 && (a2 == 1)) || (a4 && (a3 == 2))) = false → w3.heap[b2]? = some (.map #[] 0)) := by
  have e : (pick a4 (s1Of a1 a2 w.heap.size) (pkOpt a3 (w.heap.size + 1))).isSome = ((a1 && (a2 == 1)) || (a4 && (a3 == 2))) := by
    unfold pick s1Of pkOpt
    by_cases h1 : a2 = 1 <;> by_cases h2 : a3 = 2 <;> cases a1 <;> cases a4 <;> simp [h1, h2]
  cases h : pick a4 (s1Of a1 a2 w.heap.size) (pkOpt a3 (w.heap.size + 1)) with
  | none =>
    rw [h] at hb2 e
    exact ⟨fun hh => absurd (e.trans hh) (by decide), fun _ => hb2.2⟩
  | some s =>
    rw [h] at hb hb2 e
    have h1 : b = s := hb
    have h2 : b2 = s := hb2
    exact ⟨fun _ => h2.trans h1.symm, fun hh => absurd (e.trans hh) (by simp)⟩
def SomeBool (w : World) (e : Ending) (w' : World) : Prop := ∃ r : Bool, e = .returned (.bool r) ∧ w = w'
theorem bytes (s : ByteArray) (x y z u : Value) (w : World) (m1 : s.size ≤ maxLen) :
    Calls Try.prog 8 #[.string s, x, y, z, u] w (SomeBool w) := by
  unfold maxLen at m1
  go_enter Try.func8, Try.ntmps8
  go_wp2
  all_goals
    go_ret
    exact ⟨_, rfl, rfl⟩

set_option maxRecDepth 100000 in
set_option maxHeartbeats 4000000 in
theorem walk (a0 : ByteArray) (w0 : a0.size ≤ maxLen) (a1 : Bool) (a2 : Int) (_w2 : (Lit.int .i64 a2).wf = true) (a3 : Int) (_w3 : (Lit.int .i64 a3).wf = true) (a4 : Bool) (w : World) :
    Calls Try.prog 3 #[.string a0, .bool a1, .int .i64 a2, .int .i64 a3, .bool a4] w fun e w' => e = .returned (.bool true) ∧ Below w.heap.size w w' := by
  clear _w2 _w3
  have hm := w0
  unfold maxLen at hm
  have hmm := @run_makeMap Try.prog
  go_enter Try.func3, Try.ntmps3
  go_wp2_with fail
  go_at_call 8
  refine (bytes _ _ _ _ _ _ w0).mono ?_
  rintro e w' ⟨r, rfl, rfl⟩
  cases r with
  | false =>
    go_wp2
    go_ret
    exact ⟨rfl, Below.refl _ _⟩
  | true =>
    by_cases big : a0.size ≤ 65536
    · go_wp2_with fail
      have hot : a0 ++ ⟨#[36, 111, 116, 104, 101, 114]⟩ ≠ a0 := fun h => by
        have := congrArg ByteArray.size h
        simp [ByteArray.size_append] at this
        exact absurd this (by decide)
      generalize a0 ++ ⟨#[36, 111, 116, 104, 101, 114]⟩ = ot at *
      replace hot := Lib.hid hot
      generalize hW : (w.alloc (.map #[] 0)).alloc (.map #[] 0) = W
      have BW : Below w.heap.size w W := by subst hW; exact ((Below.refl _ _).alloc (Nat.le_refl _) _).alloc (by simp) _
      have kS : W.heap[w.heap.size]? = some (.map #[] 0) := by subst hW; exact heapA1 w _ _
      have kP : W.heap[w.heap.size + 1]? = some (.map #[] 0) := by subst hW; exact new_after w _ _
      clear hW
      refine (build a0 ot hot.out a1 a2 a3 w.heap.size (w.heap.size + 1) W).mono ?_
      rintro e w1 ⟨P, C, M, R, tv, rfl, B1, c1, c2, c3, c4, lM, lR, lR', s1, s2⟩
      clear hot
      replace s1 := Lib.hid s1
      replace s2 := Lib.hid s2
      go_wp2_with fail
      go_at_call 10
      refine (zzGet (B0 := W.heap.size) P C M R tv a0 a4 _ _ w1 c1 c2 c3 c4 s1.out s2.out).mono ?_
      rintro e w2 ⟨b, rfl, B2, hb⟩
      have hw : w.heap.size + 1 < W.heap.size := lt_of_heap kP
      obtain ⟨f1, f2, f3, f4⟩ := first_facts a1 a4 a2 a3 kS kP B1 B2 lM lR s1.out lR' hb hw
      have u := upE ⟨#[107]⟩ (.agg #[.nilIface, .int .i32 0, .bool true]) f1
      obtain ⟨X, hX⟩ : ∃ X, X = putMap w2 b #[{ key := .string ⟨#[107]⟩, val := .agg #[.nilIface, .int .i32 0, .bool true], born := 0 }] 1 := ⟨_, rfl⟩
      have d1 : X.cell? ⟨P, 104, none⟩ = some (.pointer (some ⟨C, 0, none⟩)) := by rw [hX]; exact (putMap_cell f1 _).trans (bC B2 c1)
      have d2 : X.cell? ⟨P, 158, none⟩ = some (.map (some R)) := by rw [hX]; exact (putMap_cell f1 _).trans (bC B2 c2)
      have d3 : X.cell? ⟨C, 3, none⟩ = some (.map (some M)) := by rw [hX]; exact (putMap_cell f1 _).trans (bC B2 c3)
      have d4 : X.cell? ⟨C, 0, none⟩ = some tv := by rw [hX]; exact (putMap_cell f1 _).trans (bC B2 c4)
      have t1 : St1 X M R a0 (s1Of a1 a2 w.heap.size) := by rw [hX]; exact st1_put (st1_below s1.out B2) f1 f2 f3
      have t2 : St2 X W.heap.size tv a0 (pkOpt a3 (w.heap.size + 1)) := by rw [hX]; exact st2_put (s2.out.below B2) f1 f4
      have x1 : X.heap[b]? = some (one (.string ⟨#[107]⟩) (.agg #[.nilIface, .int .i32 0, .bool true])) := by rw [hX]; exact putMap_same f1
      have BX : Below w.heap.size w X := by
        rw [hX]
        have g1 := BW.trans (B1.mono BW.size)
        exact putMap_below (g1.trans (B2.mono g1.size)) (first_le hb BW.size B1.size)
      rw [← hX] at u
      clear hX B1 B2 c1 c2 c3 c4 s1 s2 kS kP f1 f2 f3 f4 lM lR lR' BW
      replace hb := Lib.hid hb
      replace t1 := Lib.hid t1
      replace t2 := Lib.hid t2
      go_wp2_with fail
      clear u
      go_at_call 10
      refine (zzGet (B0 := W.heap.size) P C M R tv a0 a4 _ _ X d1 d2 d3 d4 t1.out t2.out).mono ?_
      rintro e w3 ⟨b2, rfl, B3, hb2⟩
      have y1 := bH B3 x1
      have BY := BX.trans (B3.mono BX.size)
      clear d1 d2 d3 d4 t1 t2 x1 BX B3
      replace hb2 := Lib.hid hb2
      have lk := lookE_hit y1
      have ln := run_len 3 y1
      have la : ∀ o, (Builtin.len_ #[24] 3 #[.map (some b)]).run Try.prog (w3.alloc o) = .ok (.int .i64 1) (w3.alloc o) := fun o => run_len 3 (bH ((Below.refl _ _).alloc (Nat.le_refl _) _) y1)
      cases t2 : (a2 == 1) <;> cases t3 : (a3 == 2) <;> cases a1 <;> cases a4
      all_goals
        have hs := second _ _ a2 a3 hb.out hb2.out
        rw [t2, t3] at hs
        first
          | (have hs' := hs.1 (by rfl)
             subst hs'
             clear hs hb hb2 y1
             go_wp2_with fail
             go_ret
             exact ⟨rfl, BY.alloc BY.size _⟩)
          | (have hs' := run_len 3 (hs.2 (by rfl))
             clear hs hb hb2 y1
             go_wp2_with fail
             go_ret
             exact ⟨rfl, BY⟩)
    · go_wp2
      all_goals first | omega | (go_ret; exact ⟨rfl, Below.refl _ _⟩)
end Go.Proofs.Ytihpdmoonddjmaa.fnGetOrCreateNamespaceMembersMergeScript
