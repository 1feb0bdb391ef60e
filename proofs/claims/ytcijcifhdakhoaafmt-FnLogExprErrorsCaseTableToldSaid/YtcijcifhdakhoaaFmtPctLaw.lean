/-
  The plain law of the percent-escaped data URL: its payload decodes back, holds none of four bytes, ends above a space. No program in sight.
-/
import Derived.Test.YtcijcifhdakhoaaFmtRows
namespace Go.Proofs.YtcijcifhdakhoaaFmt.Pct

def hexB (c : Nat) : Bool := (decide (48 ≤ c) && decide (c ≤ 57)) || ((decide (97 ≤ c) && decide (c ≤ 102)) || (decide (65 ≤ c) && decide (c ≤ 70)))
def hv (c : Nat) : Nat := if c ≤ 57 then c - 48 else if 97 ≤ c then c - 87 else c - 55
def hd (x : Nat) : Nat := if x < 10 then 48 + x else 55 + x
theorem hexB_iff (c : Nat) : hexB c = true ↔ (48 ≤ c ∧ c ≤ 57) ∨ (97 ≤ c ∧ c ≤ 102) ∨ (65 ≤ c ∧ c ≤ 70) := by simp [hexB]
theorem hd_hex (x : Nat) (h : x < 16) : hexB (hd x) = true := by
  rw [hexB_iff]; unfold hd; split <;> omega
theorem hv_hd (x : Nat) (h : x < 16) : hv (hd x) = x := by
  unfold hd hv; split <;> split <;> (try split) <;> omega
theorem hd_lt (x : Nat) (h : x < 16) : 48 ≤ hd x ∧ hd x ≤ 70 := by
  unfold hd; split <;> omega
def Esc (b : Nat → Nat) (n ts j : Nat) : Prop := b j = 9 ∨ b j = 10 ∨ b j = 13 ∨ b j = 35 ∨ ts ≤ j ∨ (b j = 37 ∧ j + 2 < n ∧ hexB (b (j + 1)) = true ∧ hexB (b (j + 2)) = true)
instance (b : Nat → Nat) (n ts j : Nat) : Decidable (Esc b n ts j) := by unfold Esc; infer_instance
section
variable {b : Nat → Nat} {n ts : Nat}
def out (b : Nat → Nat) (n ts j : Nat) : List Nat := if Esc b n ts j then [37, hd (b j / 16), hd (b j % 16)] else [b j]
def seg (b : Nat → Nat) (n ts : Nat) : Nat → Nat → List Nat
  | _, 0 => []
  | j, k + 1 => out b n ts j ++ seg b n ts (j + 1) k
theorem seg_add (j k l : Nat) : seg b n ts j (k + l) = seg b n ts j k ++ seg b n ts (j + k) l := by
  induction k generalizing j with
  | zero => simp [seg]
  | succ k ih =>
    rw [show k + 1 + l = (k + l) + 1 by omega, seg, seg, ih, List.append_assoc, show j + 1 + k = j + (k + 1) by omega]
theorem seg_lt (hb : ∀ j, b j < 256) (j k : Nat) : ∀ x ∈ seg b n ts j k, x < 256 := by
  induction k generalizing j with
  | zero => intro x h; cases h
  | succ k ih =>
    intro x h
    rw [seg, List.mem_append] at h
    rcases h with h | h
    · unfold out at h
      have h1 := hb j
      have h2 := hd_lt (b j / 16) (by omega)
      have h3 := hd_lt (b j % 16) (by omega)
      split at h
      · simp only [List.mem_cons, List.not_mem_nil, or_false] at h
        omega
      · simp only [List.mem_cons, List.not_mem_nil, or_false] at h
        omega
    · exact ih _ _ h
theorem seg_safe (hb : ∀ j, b j < 256) (j k : Nat) : ∀ x ∈ seg b n ts j k, x ≠ 9 ∧ x ≠ 10 ∧ x ≠ 13 ∧ x ≠ 35 := by
  induction k generalizing j with
  | zero => intro x h; cases h
  | succ k ih =>
    intro x h
    rw [seg, List.mem_append] at h
    rcases h with h | h
    · unfold out at h
      have h1 := hb j
      have h2 := hd_lt (b j / 16) (by omega)
      have h3 := hd_lt (b j % 16) (by omega)
      split at h
      · simp only [List.mem_cons, List.not_mem_nil, or_false] at h
        omega
      · rename_i hE
        simp only [List.mem_cons, List.not_mem_nil, or_false] at h
        unfold Esc at hE
        omega
    · exact ih _ _ h
/-- Behind the last byte that need not be escaped for its place. -/
def Trail (b : Nat → Nat) (n ts : Nat) : Prop := ts ≤ n ∧ (0 < ts → 32 < b (ts - 1) ∨ b (ts - 1) = 9 ∨ b (ts - 1) = 10 ∨ b (ts - 1) = 13)
theorem seg_last (hb : ∀ j, b j < 256) (ht : Trail b n ts) (j k : Nat) (hk : j + (k + 1) = n) : ∀ x, (seg b n ts j (k + 1)).getLast? = some x → 32 < x := by
  intro x hx
  rw [seg_add j k 1, show seg b n ts (j + k) 1 = out b n ts (j + k) from by simp [seg]] at hx
  unfold out at hx
  have h1 := hb (j + k)
  have h3 := hd_lt (b (j + k) % 16) (by omega)
  split at hx
  · simp [List.getLast?_append] at hx
    omega
  · rename_i hE
    simp [List.getLast?_append] at hx
    unfold Esc at hE
    obtain ⟨t1, t2⟩ := ht
    have e : ts - 1 = j + k := by omega
    rw [e] at t2
    omega
theorem seg_pos (j k : Nat) : k ≤ (seg b n ts j k).length := by
  induction k generalizing j with
  | zero => exact Nat.zero_le _
  | succ k ih =>
    rw [seg, List.length_append]
    have := ih (j + 1)
    have h : 1 ≤ (out b n ts j).length := by unfold out; split <;> simp
    omega
theorem seg_len (j k : Nat) : (seg b n ts j k).length ≤ 3 * k := by
  induction k generalizing j with
  | zero => exact Nat.zero_le _
  | succ k ih =>
    rw [seg, List.length_append]
    have := ih (j + 1)
    have h : (out b n ts j).length ≤ 3 := by unfold out; split <;> simp
    omega
theorem step_esc (hb : ∀ j, b j < 256) (j : Nat) (hj : j < n) (h : Esc b n ts j) : seg b n ts j (n - j) = 37 :: hd (b j / 16) :: hd (b j % 16) :: seg b n ts (j + 1) (n - (j + 1)) ∧
    hexB (hd (b j / 16)) = true ∧ hexB (hd (b j % 16)) = true ∧ hv (hd (b j / 16)) * 16 + hv (hd (b j % 16)) = b j := by
  have h1 := hb j
  refine ⟨?_, hd_hex _ (by omega), hd_hex _ (by omega), ?_⟩
  · rw [show n - j = (n - (j + 1)) + 1 by omega, seg, out, if_pos h]
    rfl
  · rw [hv_hd _ (by omega), hv_hd _ (by omega)]
    omega
theorem seg_raw (j : Nat) (hj : j < n) (h : ¬ Esc b n ts j) : seg b n ts j (n - j) = b j :: seg b n ts (j + 1) (n - (j + 1)) := by
  rw [show n - j = (n - (j + 1)) + 1 by omega, seg, out, if_neg h]
  rfl
theorem seg_head (hb : ∀ j, b j < 256) (j x : Nat) (r : List Nat) (h : seg b n ts j (n - j) = x :: r) (hx : hexB x = true) : j < n ∧ x = b j ∧ r = seg b n ts (j + 1) (n - (j + 1)) := by
  rcases Nat.lt_or_ge j n with hj | hj
  · by_cases he : Esc b n ts j
    · rw [(step_esc hb j hj he).1] at h
      injection h with h _
      subst h
      exact absurd hx (by decide)
    · rw [seg_raw j hj he] at h
      injection h with h1 h2
      exact ⟨hj, h1.symm, h2.symm⟩
  · rw [show n - j = 0 by omega, seg] at h
    cases h
theorem step_raw (hb : ∀ j, b j < 256) (j : Nat) (h : ¬ Esc b n ts j) (h37 : b j = 37) (x y : Nat) (r : List Nat) (hs : seg b n ts (j + 1) (n - (j + 1)) = x :: y :: r) : ¬ (hexB x = true ∧ hexB y = true) := by
  rintro ⟨hx, hy⟩
  obtain ⟨h1, rfl, h2⟩ := seg_head hb _ _ _ hs hx
  obtain ⟨h3, rfl, h4⟩ := seg_head hb _ _ _ h2.symm hy
  exact h (.inr (.inr (.inr (.inr (.inr ⟨h37, h3, hx, hy⟩)))))
theorem seg_plain (j k : Nat) (h : ∀ i, j ≤ i → i < j + k → ¬ Esc b n ts i) : seg b n ts j k = (List.range' j k).map b := by
  induction k generalizing j with
  | zero => rfl
  | succ k ih =>
    rw [seg, out, if_neg (h j (Nat.le_refl _) (by omega)), ih (j + 1) (fun i h1 h2 => h i (by omega) (by omega)), List.range'_succ]
    rfl
theorem seg_one (j : Nat) (h : Esc b n ts j) : seg b n ts j 1 = [37, hd (b j / 16), hd (b j % 16)] := by
  simp [seg, out, h]
end
end Go.Proofs.YtcijcifhdakhoaaFmt.Pct
