/-
  The rounded square root is monotone, in plain mathematics. No condition.
-/
import Derived.Test.YtnfmpgmkmlmnjaaMono
namespace Go.Proofs.Ytnfmpgmkmlmnjaa.Root
open Fl Bits Small2 Ieee

theorem sq_lt {a b : Nat} (h : a * a < b * b) : a < b := by
  apply Classical.byContradiction
  intro hh
  have := Nat.mul_le_mul (Nat.not_lt.1 hh) (Nat.not_lt.1 hh)
  omega
theorem sq_le {a b : Nat} (h : a * a ≤ b * b) : a ≤ b := by
  apply Classical.byContradiction
  intro hh
  have := Nat.mul_lt_mul'' (Nat.not_le.1 hh) (Nat.not_le.1 hh)
  omega

theorem rootFrom_spec (n : Nat) : ∀ (todo root : Nat), root * root ≤ n → n < (root + 2 ^ todo) * (root + 2 ^ todo) →
    Datum.rootFrom n todo root * Datum.rootFrom n todo root ≤ n ∧ n < (Datum.rootFrom n todo root + 1) * (Datum.rootFrom n todo root + 1)
  | 0, root, h1, h2 => by
    unfold Datum.rootFrom
    exact ⟨h1, by simpa using h2⟩
  | todo + 1, root, h1, h2 => by
    unfold Datum.rootFrom
    dsimp only
    rw [Nat.shiftLeft_eq, Nat.one_mul]
    by_cases h : (root + 2 ^ todo) * (root + 2 ^ todo) ≤ n
    · rw [if_pos h]
      refine rootFrom_spec n todo _ h ?_
      have e : root + 2 ^ todo + 2 ^ todo = root + 2 ^ (todo + 1) := by rw [Nat.pow_succ]; omega
      rw [e]
      exact h2
    · rw [if_neg h]
      exact rootFrom_spec n todo root h1 (Nat.not_le.1 h)

/-- The whole root. -/
def wr (n : Nat) : Nat := Datum.rootFrom n (n.log2 / 2 + 1) 0
theorem wr_spec (n : Nat) : wr n * wr n ≤ n ∧ n < (wr n + 1) * (wr n + 1) := by
  refine rootFrom_spec n _ 0 (Nat.zero_le _) ?_
  rw [Nat.zero_add, ← Nat.pow_add]
  have h : n < 2 ^ (n.log2 + 1) := Nat.lt_log2_self
  exact Nat.lt_of_lt_of_le h (Nat.pow_le_pow_right (by omega) (by omega))

/-- The root's parts for a number that is not nought. -/
theorem root_parts (m : Nat) (i : Int) (hm : m ≠ 0) (hlog : m.log2 ≤ 108) : ∃ (N : Nat) (j : Int), (Datum.number false m i).root 54 = some (.number false (2 * wr N + (wr N * wr N != N).toNat) (j - 1)) ∧
    2 ^ 108 ≤ N ∧ N < 2 ^ 110 ∧ Ie.eqv m i N (2 * j) := by
  have a1 : 2 ^ m.log2 ≤ m := Nat.log2_self_le hm
  have a2 : m < 2 ^ (m.log2 + 1) := Nat.lt_log2_self
  unfold Datum.root
  dsimp only
  rw [if_neg hm]
  simp only [Bool.false_eq_true, if_false]
  generalize hmore0 : 2 * 54 - m.log2 = more0
  have hpar : ((i - (more0 : Nat)) % 2).toNat = 0 ∨ ((i - (more0 : Nat)) % 2).toNat = 1 := by omega
  generalize hp : ((i - (more0 : Nat)) % 2).toNat = par at *
  generalize hmm : more0 + par = more
  refine ⟨m <<< more, (i - (more : Nat)) / 2, rfl, ?_, ?_, ?_⟩
  · rw [Nat.shiftLeft_eq]
    have := Nat.mul_le_mul_right (2 ^ more) a1
    rw [← Nat.pow_add] at this
    exact Nat.le_trans (Nat.pow_le_pow_right (by omega) (by omega)) this
  · rw [Nat.shiftLeft_eq]
    have := Nat.mul_lt_mul_of_pos_right a2 (Nat.two_pow_pos more)
    rw [← Nat.pow_add] at this
    exact Nat.lt_of_lt_of_le this (Nat.pow_le_pow_right (by omega) (by omega))
  · rw [Nat.shiftLeft_eq]
    have h := Ie.eqv_shift m more i
    have e : i - (more : Int) = 2 * ((i - (more : Int)) / 2) := by omega
    rw [← e]
    exact h

theorem sticky_le (w1 n1 w2 n2 : Nat) (h1 : w1 * w1 ≤ n1) (h2 : n2 < (w2 + 1) * (w2 + 1)) (h4 : w2 * w2 ≤ n2) (h : n1 ≤ n2) :
    2 * w1 + (w1 * w1 != n1).toNat ≤ 2 * w2 + (w2 * w2 != n2).toNat := by
  have hw : w1 ≤ w2 := by
    have : w1 < w2 + 1 := sq_lt (by omega)
    omega
  have b1 : (w1 * w1 != n1).toNat ≤ 1 := Bool.toNat_le _
  rcases Nat.lt_or_eq_of_le hw with hlt | heq
  · omega
  · subst heq
    by_cases e1 : w1 * w1 = n1
    · have : (w1 * w1 != n1) = false := by simp [e1]
      rw [this]; simp
    · have e2 : ¬ w1 * w1 = n2 := by omega
      have : (w1 * w1 != n2) = true := by simp [e2]
      rw [this]
      have : (true : Bool).toNat = 1 := rfl
      omega

theorem root_mono (m n : Nat) (i k : Int) (hm : m ≠ 0) (hn : n ≠ 0) (lm : m.log2 ≤ 108) (ln : n.log2 ≤ 108) (h : Ie.le2 m i n k) :
    ∃ a p b q, (Datum.number false m i).root 54 = some (.number false a p) ∧ (Datum.number false n k).root 54 = some (.number false b q) ∧ Ie.le2 a p b q := by
  obtain ⟨N, j, e1, l1, u1, v1⟩ := root_parts m i hm lm
  obtain ⟨M, l, e2, l2, u2, v2⟩ := root_parts n k hn ln
  refine ⟨_, _, _, _, e1, e2, ?_⟩
  have hNM : Ie.le2 N (2 * j) M (2 * l) := Ie.le2_trans v1.2 (Ie.le2_trans h v2.1)
  obtain ⟨r1, r2⟩ := wr_spec N
  obtain ⟨s1, s2⟩ := wr_spec M
  generalize wr N = a at *
  generalize wr M = b at *
  have b1 : (a * a != N).toNat ≤ 1 := Bool.toNat_le _
  rcases Int.lt_trichotomy j l with hjl | hjl | hjl
  · have ha : a < 2 ^ 55 := by
      apply sq_lt
      have e : (2 : Nat) ^ 55 * 2 ^ 55 = 2 ^ 110 := by decide
      rw [e]; omega
    have hb : 2 ^ 54 ≤ b := by
      have : 2 ^ 54 < b + 1 := by
        apply sq_lt
        have e : (2 : Nat) ^ 54 * 2 ^ 54 = 2 ^ 108 := by decide
        rw [e]; omega
      omega
    rw [Ie.le2_at _ _ _ _ (j - 1) (by omega) (by omega)]
    unfold Ie.at_
    have e0 : (j - 1 - (j - 1)).toNat = 0 := by omega
    rw [e0, Nat.pow_zero, Nat.mul_one]
    have e3 : 2 ^ 1 ≤ 2 ^ (l - 1 - (j - 1)).toNat := Nat.pow_le_pow_right (by omega) (by omega)
    have e4 : (2 * b) * 2 ^ 1 ≤ (2 * b + (b * b != M).toNat) * 2 ^ (l - 1 - (j - 1)).toNat := Nat.mul_le_mul (by omega) e3
    refine Nat.le_trans ?_ e4
    omega
  · subst hjl
    rw [Ie.le2_at _ _ _ _ (2 * j) (Int.le_refl _) (Int.le_refl _)] at hNM
    unfold Ie.at_ at hNM
    have e0 : (2 * j - 2 * j).toNat = 0 := by omega
    rw [e0, Nat.pow_zero, Nat.mul_one, Nat.mul_one] at hNM
    exact Mono.le2_unit _ (sticky_le a N b M r1 s2 s1 hNM)
  · exfalso
    rw [Ie.le2_at _ _ _ _ (2 * l) (by omega) (by omega)] at hNM
    unfold Ie.at_ at hNM
    have e0 : (2 * l - 2 * l).toNat = 0 := by omega
    rw [e0, Nat.pow_zero, Nat.mul_one] at hNM
    have e3 : 2 ^ 2 ≤ 2 ^ (2 * j - 2 * l).toNat := Nat.pow_le_pow_right (by omega) (by omega)
    have e4 : 2 ^ 108 * 2 ^ 2 ≤ N * 2 ^ (2 * j - 2 * l).toNat := Nat.mul_le_mul l1 e3
    have e5 : (2 : Nat) ^ 108 * 2 ^ 2 = 2 ^ 110 := by decide
    omega

/-- What Sqrt may give. -/
def FS (x r : Nat) : Prop := match D.sqrt x with | some r' => r = r' | none => nan r = true

/-- Of x with 0 <= x: the root's rung is not below nought; of a zero it is nought. -/
theorem sqrt_mono {x y r s : Nat} (hx : nan x = false) (hy : nan y = false) (h0 : 0 ≤ Ie.key x) (h : Ie.key x ≤ Ie.key y) (hr : FS x r) (hs : FS y s) :
    nan r = false ∧ nan s = false ∧ Ie.key r ≤ Ie.key s := by
  -- the root of a float that is not below nought
  have one : ∀ {z t : Nat}, nan z = false → 0 ≤ Ie.key z → FS z t → nan t = false ∧ 0 ≤ Ie.key t ∧ (Ie.rg z = 0 → Ie.key t = 0) ∧ (fin z = false → Ie.key t = ((2047 * 2 ^ 52 : Nat) : Int)) ∧
      (fin z = true → Ie.rg z ≠ 0 → ∀ a p, (Datum.number false (Ie.rm (Ie.rg z)) (Ie.rq (Ie.rg z))).root 54 = some (.number false a p) → Ie.key t = (Ie.rung a p : Int)) := by
    intro z t hz hk ht
    unfold FS at ht
    have hle := FloorMath.not_nan_le hz
    have e : D.sqrt z = ((D.read z).root 54).map D.write := rfl
    rw [e] at ht
    cases hf : fin z with
    | false =>
      obtain ⟨h1, h2⟩ := inf_read hf hz
      have hsg : Ie.sg z = false := by
        unfold Ie.key at hk
        cases hg : Ie.sg z
        · rfl
        · rw [hg, h2] at hk; simp only [if_true] at hk; omega
      rw [h1, hsg] at ht
      have ht : t = D.word false (2047 * 2 ^ 52) := ht
      have kt : Ie.key t = ((2047 * 2 ^ 52 : Nat) : Int) := by rw [ht, FloorMath.keyOf_word (Nat.le_refl _)]; rfl
      have nt : nan t = false := by rw [ht]; exact FloorMath.nan_word (Nat.le_refl _)
      refine ⟨nt, by omega, fun hh => by omega, fun _ => kt, fun hh => ?_⟩
      cases hh
    | true =>
      rw [fin_read hf] at ht
      by_cases h0 : Ie.rg z = 0
      · have hm : Ie.rm (Ie.rg z) = 0 := (Ie.rm_zero _).2 h0
        rw [hm] at ht
        have ht : t = D.write (.number (Ie.sg z) 0 (Ie.rq (Ie.rg z))) := ht
        rw [D_eq, Ie.write_number] at ht
        have hz0 : Ie.rung 0 (Ie.rq (Ie.rg z)) = 0 := by unfold Ie.rung; rw [if_pos rfl]
        rw [hz0] at ht
        have ht : t = D.word (Ie.sg z) 0 := ht
        have kt : Ie.key t = 0 := by rw [ht, FloorMath.keyOf_word (Nat.zero_le _)]; cases Ie.sg z <;> rfl
        have nt : nan t = false := by rw [ht]; exact FloorMath.nan_word (Nat.zero_le _)
        refine ⟨nt, by omega, fun _ => kt, fun hh => ?_, fun _ hh => absurd h0 hh⟩
        cases hh
      · have hsg : Ie.sg z = false := by
          unfold Ie.key at hk
          cases hg : Ie.sg z
          · rfl
          · rw [hg] at hk; simp only [if_true] at hk; omega
        rw [hsg] at ht
        have hm : Ie.rm (Ie.rg z) ≠ 0 := fun hh => h0 ((Ie.rm_zero _).1 hh)
        have hlog : (Ie.rm (Ie.rg z)).log2 ≤ 108 := by
          have := (Nat.log2_lt hm).2 (FloorMath.rm_lt (Ie.rg z))
          omega
        obtain ⟨N, j, er, _⟩ := root_parts (Ie.rm (Ie.rg z)) (Ie.rq (Ie.rg z)) hm hlog
        rw [er] at ht
        generalize 2 * wr N + (wr N * wr N != N).toNat = a at *
        have ht : t = D.write (.number false a (j - 1)) := ht
        rw [D_eq, Ie.write_number] at ht
        have ht : t = D.word false (Ie.rung a (j - 1)) := ht
        have kt : Ie.key t = (Ie.rung a (j - 1) : Int) := by rw [ht, FloorMath.keyOf_word (Ie.rung_le _ _)]; rfl
        have nt : nan t = false := by rw [ht]; exact FloorMath.nan_word (Ie.rung_le _ _)
        refine ⟨nt, by omega, fun hh => absurd hh h0, fun hh => ?_, fun _ _ a' p' hh => ?_⟩
        · cases hh
        · rw [er] at hh
          cases hh
          exact kt
  obtain ⟨a1, a2, a3, a4, a5⟩ := one hx h0 hr
  obtain ⟨b1, b2, b3, b4, b5⟩ := one hy (by omega) hs
  refine ⟨a1, b1, ?_⟩
  by_cases hz : Ie.rg x = 0
  · have := a3 hz; omega
  · cases fy : fin y with
    | false =>
      have := b4 fy
      rw [this]
      -- every key is at most that of the infinity
      have hle := FloorMath.not_nan_le a1
      unfold Ie.key
      split <;> omega
    | true =>
      have fy' : Ie.rg y < 2047 * 2 ^ 52 := of_decide_eq_true fy
      have kx : Ie.key x = (Ie.rg x : Int) := by
        unfold Ie.key at h0 ⊢
        cases hg : Ie.sg x
        · simp
        · rw [hg] at h0; simp only [if_true] at h0; omega
      have ky : Ie.key y = (Ie.rg y : Int) := by
        have h' : 0 ≤ Ie.key y := by omega
        unfold Ie.key at h' ⊢
        cases hg : Ie.sg y
        · simp
        · rw [hg] at h'; simp only [if_true] at h'; omega
      have fx : fin x = true := decide_eq_true (by omega)
      have hzy : Ie.rg y ≠ 0 := by omega
      have hmx : Ie.rm (Ie.rg x) ≠ 0 := fun hh => hz ((Ie.rm_zero _).1 hh)
      have hmy : Ie.rm (Ie.rg y) ≠ 0 := fun hh => hzy ((Ie.rm_zero _).1 hh)
      have hlx : (Ie.rm (Ie.rg x)).log2 ≤ 108 := by
        have := (Nat.log2_lt hmx).2 (FloorMath.rm_lt (Ie.rg x)); omega
      have hly : (Ie.rm (Ie.rg y)).log2 ≤ 108 := by
        have := (Nat.log2_lt hmy).2 (FloorMath.rm_lt (Ie.rg y)); omega
      have hl2 : Ie.le2 (Ie.rm (Ie.rg x)) (Ie.rq (Ie.rg x)) (Ie.rm (Ie.rg y)) (Ie.rq (Ie.rg y)) :=
        (Ie.rung_le_iff _ _ (FloorMath.not_nan_le hx) (FloorMath.not_nan_le hy)).2 (by omega)
      obtain ⟨a', p', b', q', g1, g2, g3⟩ := root_mono _ _ _ _ hmx hmy hlx hly hl2
      have hA := a5 fx hz a' p' g1
      have hB := b5 fy hzy b' q' g2
      have := Ie.rung_mono g3
      omega
end Go.Proofs.Ytnfmpgmkmlmnjaa.Root
