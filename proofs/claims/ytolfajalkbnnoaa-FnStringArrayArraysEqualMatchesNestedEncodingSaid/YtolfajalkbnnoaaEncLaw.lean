/-
  The nested encoding of lists of strings is injective: plain lists of bytes. No condition.
-/
import Derived.Test.YtolfajalkbnnoaaRows
namespace Go.Proofs.Ytolfajalkbnnoaa.Enc

def dig (m : Nat) : UInt8 := UInt8.ofNat (48 + m % 10)
/-- The digits of m, none for 0. -/
def pre (m : Nat) : List UInt8 := if m = 0 then [] else pre (m / 10) ++ [dig m]
termination_by m
decreasing_by omega
theorem pre_zero : pre 0 = [] := by rw [pre]; rfl
theorem pre_pos (m : Nat) (h : 0 < m) : pre m = pre (m / 10) ++ [dig m] := by rw [pre, if_neg (by omega)]
def dg (n : Nat) : List UInt8 := if n = 0 then [48] else pre n
def val (l : List UInt8) : Nat := l.foldl (fun a b => 10 * a + (b.toNat - 48)) 0
theorem dig_nat (m : Nat) : (dig m).toNat = 48 + m % 10 := by
  unfold dig
  rw [UInt8.toNat_ofNat']
  omega
theorem val_pre : ∀ m, val (pre m) = m := by
  intro m
  induction m using Nat.strongRecOn with
  | ind m ih =>
    rcases Nat.eq_zero_or_pos m with h | h
    · subst h; rw [pre_zero]; rfl
    · rw [pre_pos m h]
      have h1 := ih (m / 10) (by omega)
      unfold val at h1 ⊢
      rw [List.foldl_append, h1]
      simp only [List.foldl_cons, List.foldl_nil, dig_nat]
      omega
theorem val_dg (n : Nat) : val (dg n) = n := by
  unfold dg
  split
  · rename_i h; subst h; rfl
  · exact val_pre n
theorem dg_inj {n m : Nat} (h : dg n = dg m) : n = m := by rw [← val_dg n, ← val_dg m, h]
theorem pre_rng : ∀ m, ∀ b ∈ pre m, 48 ≤ b.toNat ∧ b.toNat ≤ 57 := by
  intro m
  induction m using Nat.strongRecOn with
  | ind m ih =>
    rcases Nat.eq_zero_or_pos m with h | h
    · subst h; rw [pre_zero]; intro b hb; cases hb
    · rw [pre_pos m h]
      intro b hb
      rcases List.mem_append.1 hb with hb | hb
      · exact ih (m / 10) (by omega) b hb
      · simp only [List.mem_singleton] at hb
        subst hb
        rw [dig_nat]; omega
theorem dg_rng (n : Nat) : ∀ b ∈ dg n, 48 ≤ b.toNat ∧ b.toNat ≤ 57 := by
  unfold dg
  split
  · intro b hb; simp only [List.mem_singleton] at hb; subst hb; decide
  · exact pre_rng n
/-- What stands ahead of a mark is read off, where the mark occurs in neither head. -/
theorem split_at {x : UInt8} : ∀ {l1 l2 r1 r2 : List UInt8}, x ∉ l1 → x ∉ l2 → l1 ++ x :: r1 = l2 ++ x :: r2 → l1 = l2 ∧ r1 = r2
  | [], [], r1, r2, _, _, h => by simp at h; exact ⟨rfl, h⟩
  | [], b :: l2, r1, r2, _, h2, h => by simp at h; exact absurd (h.1 ▸ List.mem_cons_self) h2
  | a :: l1, [], r1, r2, h1, _, h => by simp at h; exact absurd (h.1 ▸ List.mem_cons_self) h1
  | a :: l1, b :: l2, r1, r2, h1, h2, h => by
    simp at h
    obtain ⟨e, h⟩ := h
    have := split_at (fun hx => h1 (List.mem_cons_of_mem _ hx)) (fun hx => h2 (List.mem_cons_of_mem _ hx)) h
    exact ⟨by rw [e, this.1], this.2⟩
theorem dg_not (n : Nat) (x : UInt8) (h : 57 < x.toNat) : x ∉ dg n := fun hx => by have := dg_rng n x hx; omega
/-- The encoding of one list: of each element its length, ':' and its bytes. -/
def enc : List (List UInt8) → List UInt8
  | [] => []
  | s :: l => dg s.length ++ 58 :: (s ++ enc l)
theorem enc_inj : ∀ {l l' : List (List UInt8)} {r r' : List UInt8}, l.length = l'.length → enc l ++ r = enc l' ++ r' → l = l' ∧ r = r'
  | [], [], _, _, _, h => ⟨rfl, h⟩
  | [], _ :: _, _, _, hl, _ => by simp at hl
  | _ :: _, [], _, _, hl, _ => by simp at hl
  | s :: l, s' :: l', r, r', hl, h => by
    simp only [enc, List.append_assoc, List.cons_append] at h
    obtain ⟨h1, h2⟩ := split_at (dg_not _ _ (by decide)) (dg_not _ _ (by decide)) h
    have hs := dg_inj h1
    obtain ⟨h3, h4⟩ := List.append_inj h2 hs
    obtain ⟨h5, h6⟩ := enc_inj (by simpa using hl) h4
    exact ⟨by rw [h3, h5], h6⟩
/-- The encoding of a list of lists: of each its count in brackets, then its own encoding. -/
def enc2 : List (List (List UInt8)) → List UInt8
  | [] => []
  | s :: l => 91 :: (dg s.length ++ 93 :: (enc s ++ enc2 l))
theorem enc2_inj : ∀ {l l' : List (List (List UInt8))}, enc2 l = enc2 l' → l = l'
  | [], [], _ => rfl
  | [], _ :: _, h => by simp [enc2] at h
  | _ :: _, [], h => by simp [enc2] at h
  | s :: l, s' :: l', h => by
    simp only [enc2, List.cons.injEq, true_and] at h
    obtain ⟨h1, h2⟩ := split_at (dg_not _ _ (by decide)) (dg_not _ _ (by decide)) h
    have hs := dg_inj h1
    obtain ⟨h3, h4⟩ := enc_inj hs h2
    rw [h3, enc2_inj h4]
theorem enc_snoc (l : List (List UInt8)) (s : List UInt8) : enc (l ++ [s]) = enc l ++ (dg s.length ++ 58 :: s) := by
  induction l with
  | nil => simp [enc]
  | cons a l ih => simp [enc, ih]
theorem enc2_snoc (l : List (List (List UInt8))) (s : List (List UInt8)) : enc2 (l ++ [s]) = enc2 l ++ (91 :: (dg s.length ++ 93 :: enc s)) := by
  induction l with
  | nil => simp [enc2]
  | cons a l ih => simp [enc2, ih]
theorem pre_len : ∀ (k m : Nat), m < 2 ^ k → (pre m).length ≤ k
  | 0, m, h => by have : m = 0 := by omega
                  subst this; rw [pre_zero]; simp
  | k + 1, m, h => by
    rcases Nat.eq_zero_or_pos m with h0 | h0
    · subst h0; rw [pre_zero]; simp
    · rw [pre_pos m h0, List.length_append]
      have := pre_len k (m / 10) (by rw [Nat.pow_succ] at h; omega)
      simp; omega
theorem dg_len (n : Nat) (h : n < 2097152) : (dg n).length ≤ 21 := by
  unfold dg
  split
  · simp
  · exact pre_len 21 n h
end Go.Proofs.Ytolfajalkbnnoaa.Enc
