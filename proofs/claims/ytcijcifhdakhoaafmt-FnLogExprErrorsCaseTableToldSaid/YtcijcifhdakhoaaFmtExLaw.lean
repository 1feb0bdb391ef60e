/-
  Line ends in a text: the first one from a place on; going back rune by rune never passes one unseen. No condition.
-/
import Derived.Test.YtcijcifhdakhoaaFmtInsB
namespace Go.Proofs.YtcijcifhdakhoaaFmt.Ex
open Go.RowKit Go.Lib Go.Proofs.YtcijcifhdakhoaaFmt.U8 Go.Proofs.YtcijcifhdakhoaaFmt.Pct Go.Proofs.YtcijcifhdakhoaaFmt.Ins

def isNl (r : Nat) : Bool := r == 10 || r == 13 || r == 8232 || r == 8233
theorem wpos (s : ByteArray) (i : Nat) (h : i < s.size) : 1 ≤ (Utf8.decode s i).2 := Hash.width_pos s i h
theorem wle (s : ByteArray) (i : Nat) (h : i < s.size) : i + (Utf8.decode s i).2 ≤ s.size := (Dec.dec_facts s i h).1
def fst (s : ByteArray) (i : Nat) : Nat := if i < s.size then (if isNl (Utf8.decode s i).1 then i else fst s (i + (Utf8.decode s i).2)) else i
  termination_by s.size - i
  decreasing_by
    have := wpos s i (by assumption)
    omega
theorem fst_ge (s : ByteArray) : ∀ (k i : Nat), s.size - i ≤ k → i ≤ fst s i := by
  intro k
  induction k with
  | zero => intro i hk; rw [fst.eq_1, if_neg (by omega)]; exact Nat.le_refl _
  | succ k ih =>
    intro i hk
    rw [fst.eq_1]
    by_cases h : i < s.size
    · rw [if_pos h]
      by_cases h2 : isNl (Utf8.decode s i).1 = true
      · rw [if_pos h2]; exact Nat.le_refl _
      · rw [if_neg h2]
        have := wpos s i h
        have := ih (i + (Utf8.decode s i).2) (by omega)
        omega
    · rw [if_neg h]; exact Nat.le_refl _
theorem fst_le (s : ByteArray) : ∀ (k i : Nat), s.size - i ≤ k → i ≤ s.size → fst s i ≤ s.size := by
  intro k
  induction k with
  | zero => intro i hk hi; rw [fst.eq_1, if_neg (by omega)]; exact hi
  | succ k ih =>
    intro i hk hi
    rw [fst.eq_1]
    by_cases h : i < s.size
    · rw [if_pos h]
      by_cases h2 : isNl (Utf8.decode s i).1 = true
      · rw [if_pos h2]; exact hi
      · rw [if_neg h2]
        have := wpos s i h
        exact ih (i + (Utf8.decode s i).2) (by omega) (wle s i h)
    · rw [if_neg h]; exact hi
theorem fst_step (s : ByteArray) (i : Nat) (h : i < s.size) (hn : isNl (Utf8.decode s i).1 = false) : fst s i = fst s (i + (Utf8.decode s i).2) := by
  rw [fst.eq_1 s i, if_pos h, if_neg (by rw [hn]; decide)]
theorem fst_here (s : ByteArray) (i : Nat) (h : i < s.size) (hn : isNl (Utf8.decode s i).1 = true) : fst s i = i := by
  rw [fst.eq_1 s i, if_pos h, if_pos hn]
theorem fst_end (s : ByteArray) (i : Nat) (h : ¬ i < s.size) : fst s i = i := by rw [fst.eq_1 s i, if_neg h]
/-- A line begins at l: at the head, or behind a rune that ends a line. -/
def nlE (s : ByteArray) (l : Nat) : Prop := l = 0 ∨ ∃ j, j < s.size ∧ isNl (Utf8.decode s j).1 = true ∧ j + (Utf8.decode s j).2 = l
theorem isNl_iff (r : Nat) : isNl r = true ↔ (r = 10 ∨ r = 13 ∨ r = 8232 ∨ r = 8233) := by
  unfold isNl
  simp only [Bool.or_eq_true, beq_iff_eq]
  omega
theorem arithT : ∀ x : Fin 16, ∀ y z : Fin 64, (x.val = 0 → 32 ≤ y.val) → (x.val * 4096 + y.val * 64 + z.val = 10 ∨ x.val * 4096 + y.val * 64 + z.val = 13 ∨ x.val * 4096 + y.val * 64 + z.val = 8232 ∨ x.val * 4096 + y.val * 64 + z.val = 8233) → (x.val = 2 ∧ y.val = 0 ∧ (z.val = 40 ∨ z.val = 41)) := by decide +kernel
theorem arith3 (x y z r : Nat) (x1 : 224 ≤ x) (x2 : x ≤ 239) (y1 : 128 ≤ y) (y2 : y ≤ 191) (z1 : 128 ≤ z) (z2 : z ≤ 191) (hlo : x = 224 → 160 ≤ y) (h : r = x % 16 * 4096 + y % 64 * 64 + z % 64) (hr : r = 10 ∨ r = 13 ∨ r = 8232 ∨ r = 8233) :
    x = 226 ∧ y = 128 ∧ (z = 168 ∨ z = 169) := by
  obtain ⟨x', rfl⟩ : ∃ x', x = 224 + x' := ⟨x - 224, by omega⟩
  obtain ⟨y', rfl⟩ : ∃ y', y = 128 + y' := ⟨y - 128, by omega⟩
  obtain ⟨z', rfl⟩ : ∃ z', z = 128 + z' := ⟨z - 128, by omega⟩
  have e1 : (224 + x') % 16 = x' := by omega
  have e2 : (128 + y') % 64 = y' := by omega
  have e3 : (128 + z') % 64 = z' := by omega
  rw [e1, e2, e3] at h
  clear e1 e2 e3
  have t := arithT ⟨x', by omega⟩ ⟨y', by omega⟩ ⟨z', by omega⟩ (by dsimp only; intro hx0; have := hlo (by omega); omega) (by rw [← h]; exact hr)
  dsimp only at t
  refine ⟨by omega, by omega, ?_⟩
  rcases t.2.2 with t3 | t3
  · left; omega
  · right; omega
/-- The bytes of a rune that ends a line. -/
theorem nl_bytes (s : ByteArray) (j : Nat) (_h : j < s.size) (hn : isNl (Utf8.decode s j).1 = true) :
    ((bt s j = 10 ∨ bt s j = 13) ∧ (Utf8.decode s j).2 = 1) ∨ (bt s j = 226 ∧ bt s (j + 1) = 128 ∧ (bt s (j + 2) = 168 ∨ bt s (j + 2) = 169) ∧ (Utf8.decode s j).2 = 3) := by
  rw [isNl_iff] at hn
  have hg : GoodR s j := fun e => by rw [e] at hn; dsimp only at hn; omega
  rcases U8.shape hg with ⟨a, hd⟩ | ⟨a, b, c, d, e, hd⟩ | ⟨a, b, c, d, e, f, g, hd⟩ | ⟨a, b, c, d, e, f, g, k, l, hd⟩
  · rw [hd] at hn ⊢
    dsimp only at hn ⊢
    left
    omega
  · rw [hd] at hn
    dsimp only at hn
    omega
  · rw [hd] at hn ⊢
    dsimp only at hn ⊢
    have hl := lo_rng (bt s j)
    right
    obtain ⟨q1, q2, q3⟩ := arith3 (bt s j) (bt s (j + 1)) (bt s (j + 2)) (v3 s j) a b (Nat.le_trans hl.1 d) (Nat.le_trans e hl.2) f g (fun e0 => by rw [e0] at d; exact d) rfl hn
    exact ⟨q1, q2, q3, rfl⟩
  · rw [hd] at hn
    dsimp only at hn
    have hl := lo_rng (bt s j)
    have hv : v4 s j = bt s j % 8 * 262144 + bt s (j + 1) % 64 * 4096 + bt s (j + 2) % 64 * 64 + bt s (j + 3) % 64 := rfl
    exfalso
    have hlo : bt s j = 240 → 144 ≤ bt s (j + 1) := fun e => by rw [e] at d; exact d
    generalize bt s j = x at *
    generalize bt s (j + 1) = y at *
    generalize bt s (j + 2) = z at *
    generalize bt s (j + 3) = t at *
    have hy : 128 ≤ y ∧ y ≤ 191 := by omega
    have hbig : 65536 ≤ v4 s j := by
      rw [hv]
      rcases Nat.lt_or_ge x 241 with hx | hx
      · have hx2 : x = 240 := by omega
        have := hlo hx2
        omega
      · omega
    omega
/-- What the last rune of a text is: an ASCII byte, an error of one byte, or a rune that begins at st and ends there. -/
theorem last_alt (s : ByteArray) (h0 : 0 < s.size) : (bt s (s.size - 1) < 128 ∧ decodeLastL s.data.toList = (bt s (s.size - 1), 1)) ∨
    (128 ≤ bt s (s.size - 1) ∧ decodeLastL s.data.toList = (65533, 1)) ∨
    (128 ≤ bt s (s.size - 1) ∧ ∃ st, st < s.size ∧ decodeLastL s.data.toList = Utf8.decode s st ∧ st + (Utf8.decode s st).2 = s.size) := by
  rcases last_facts s h0 with ⟨a, b⟩ | ⟨a, _⟩
  · exact .inl ⟨a, b⟩
  · right
    have hl : s.data.toList.length = s.size := (size_eq s).symm
    have hne : s.data.toList ≠ [] := fun h => by rw [h] at hl; simp at hl; omega
    rw [decodeLastL_eq s h0 a]
    have hst := lastStart_lt _ hne
    rw [hl] at hst
    generalize lastStart s.data.toList = st at hst ⊢
    have hd : decodeGo (s.extract st s.size) = Utf8.decode s st := by
      have e : (s.extract st s.size).size = s.size - st := by simp
      rw [decodeGo, if_neg (by omega), sub_dec]
    unfold lastOf
    rw [hd]
    by_cases he : st + (Utf8.decode s st).2 = s.size
    · rw [if_pos he]
      exact .inr ⟨a, st, hst, rfl, he⟩
    · rw [if_neg he]
      exact .inl ⟨a, rfl⟩
theorem last_rng (s : ByteArray) (h0 : 0 < s.size) : 1 ≤ (decodeLastL s.data.toList).2 ∧ (decodeLastL s.data.toList).2 ≤ s.size := by
  rcases last_alt s h0 with ⟨_, e⟩ | ⟨_, e⟩ | ⟨_, st, hst, e, h2⟩
  · rw [e]; exact ⟨Nat.le_refl _, h0⟩
  · rw [e]; exact ⟨Nat.le_refl _, h0⟩
  · rw [e]; exact ⟨wpos s st hst, by omega⟩
/-- A text that ends in a line separator: its last rune is that one. -/
theorem last_sep (s : ByteArray) (h : 3 ≤ s.size) (h1 : bt s (s.size - 3) = 226) (h2 : bt s (s.size - 2) = 128) (h3 : bt s (s.size - 1) = 168 ∨ bt s (s.size - 1) = 169) : isNl (decodeLastL s.data.toList).1 = true := by
  have hge : 128 ≤ bt s (s.size - 1) := by omega
  rw [decodeLastL_eq s (by omega) hge]
  have hl : s.data.toList.length = s.size := (size_eq s).symm
  have g2 : (s.data.toList.getD (s.size - 2) 0).toNat = 128 := by rw [getD_get!]; exact h2
  have g3 : (s.data.toList.getD (s.size - 3) 0).toNat = 226 := by rw [getD_get!]; exact h1
  have hs : lastStart s.data.toList = s.size - 3 := by
    have n2 : ¬ s.size < 2 := by omega
    have n3 : ¬ s.size < 3 := by omega
    simp at g2 g3
    simp [lastStart, runeStartB, hl, g2, g3, n2, n3]
  rw [hs]
  have hd : decodeGo (s.extract (s.size - 3) s.size) = Utf8.decode s (s.size - 3) := by
    have e : (s.extract (s.size - 3) s.size).size = s.size - (s.size - 3) := by simp
    rw [decodeGo, if_neg (by omega), sub_dec]
  obtain ⟨st, hst⟩ : ∃ st, s.size = st + 3 := ⟨s.size - 3, by omega⟩
  have e1 : s.size - 3 = st := by omega
  have e2 : s.size - 2 = st + 1 := by omega
  have e3 : s.size - 1 = st + 2 := by omega
  rw [e1] at h1 hd
  rw [e2] at h2
  rw [e3] at h3
  have c1 : ct s (st + 1) (lo1 (bt s st)) (hi1 (bt s st)) = true := by
    rw [h1]
    unfold ct lo1 hi1
    rw [decide_eq_true_eq, h2]
    refine ⟨by omega, by decide, by decide⟩
  have c2 : ct s (st + 2) 128 191 = true := by
    unfold ct
    rw [decide_eq_true_eq]
    refine ⟨by omega, by omega, by omega⟩
  have hdec : Utf8.decode s st = (v3 s st, 3) := by rw [dec3 s st (by omega), c1, c2]; rfl
  unfold lastOf
  rw [e1, hd, hdec, if_pos (by dsimp only; omega)]
  dsimp only
  rw [isNl_iff]
  unfold v3
  rw [h1, h2]
  rcases h3 with h3 | h3 <;> rw [h3] <;> decide
theorem back (s : ByteArray) (i l : Nat) (hi0 : 0 < i) (hi : i ≤ s.size) (hl : l ≤ i) (hn : nlE s l) (hr : isNl (decodeLastL (s.extract 0 i).data.toList).1 = false) : l ≤ i - (decodeLastL (s.extract 0 i).data.toList).2 := by
  have hz : (s.extract 0 i).size = i := by rw [ext_size s 0 i (by omega) hi]; omega
  have hbt : ∀ j, j < i → bt (s.extract 0 i) j = bt s j := fun j hj => by rw [ext_bt s 0 i j hi (by omega), Nat.zero_add]
  generalize hT : s.extract 0 i = T at *
  rcases Nat.lt_or_ge (i - (decodeLastL T.data.toList).2) l with hlt | hge
  · exfalso
    rcases hn with h0 | ⟨j, hj, hnl, he⟩
    · omega
    have hrng := last_rng T (by omega)
    rcases Nat.lt_or_ge l i with hli | hli
    · rcases last_alt T (by omega) with ⟨_, e⟩ | ⟨_, e⟩ | ⟨ha, st, hst, e, h2⟩
      · rw [e] at hlt; dsimp only at hlt; omega
      · rw [e] at hlt; dsimp only at hlt; omega
      · rw [e] at hlt hr
        have hg : GoodR T st := fun eb => by rw [eb] at hlt h2; dsimp only at hlt h2; omega
        have hst2 : i - (Utf8.decode T st).2 = st := by omega
        rw [hst2] at hlt
        have b0 := hbt st (by omega)
        rcases nl_bytes s j hj hnl with ⟨hb, hw⟩ | ⟨hb, hb1, hb2, hw⟩
        · -- one byte at l - 1
          have hjl : j = l - 1 := by omega
          rcases U8.shape hg with ⟨a, hd⟩ | ⟨a, b, c, d, e', hd⟩ | ⟨a, b, c, d, e', f, g, hd⟩ | ⟨a, b, c, d, e', f, g, k, l', hd⟩
          · rw [hd] at h2; dsimp only at h2; omega
          · rw [hd] at h2
            dsimp only at h2
            have hj2 : j = st := by omega
            rw [hj2] at hb; omega
          · rw [hd] at h2
            dsimp only at h2
            have hl1 := lo_rng (bt T st)
            have b1 := hbt (st + 1) (by omega)
            have hj2 : j = st ∨ j = st + 1 := by omega
            rcases hj2 with hj2 | hj2 <;> rw [hj2] at hb <;> omega
          · rw [hd] at h2
            dsimp only at h2
            have hl1 := lo_rng (bt T st)
            have b1 := hbt (st + 1) (by omega)
            have b2 := hbt (st + 2) (by omega)
            have hj2 : j = st ∨ j = st + 1 ∨ j = st + 2 := by omega
            rcases hj2 with hj2 | hj2 | hj2 <;> rw [hj2] at hb <;> omega
        · -- three bytes at l - 3
          rcases U8.shape hg with ⟨a, hd⟩ | ⟨a, b, c, d, e', hd⟩ | ⟨a, b, c, d, e', f, g, hd⟩ | ⟨a, b, c, d, e', f, g, k, l', hd⟩
          · rw [hd] at h2; dsimp only at h2; omega
          · rw [hd] at h2
            dsimp only at h2
            have hj2 : j + 2 = st := by omega
            rw [hj2] at hb2; omega
          · rw [hd] at h2
            dsimp only at h2
            have hl1 := lo_rng (bt T st)
            have b1 := hbt (st + 1) (by omega)
            have hj2 : j + 2 = st ∨ j + 1 = st := by omega
            rcases hj2 with hj2 | hj2
            · rw [hj2] at hb2; omega
            · rw [hj2] at hb1; omega
          · rw [hd] at h2
            dsimp only at h2
            have hl1 := lo_rng (bt T st)
            have hj2 : j + 2 = st ∨ j + 1 = st ∨ j = st := by omega
            rcases hj2 with hj2 | hj2 | hj2
            · rw [hj2] at hb2; omega
            · rw [hj2] at hb1; omega
            · rw [hj2] at hb; omega
    · have hli : l = i := by omega
      rcases nl_bytes s j hj hnl with ⟨hb, hw⟩ | ⟨hb, hb1, hb2, hw⟩
      · have hjl : j = i - 1 := by omega
        have hb3 := hbt (i - 1) (by omega)
        rw [← hjl] at hb3
        rcases last_alt T (by omega) with ⟨ha, e⟩ | ⟨ha, e⟩ | ⟨ha, _⟩
        · rw [hz, ← hjl] at e
          rw [e] at hr
          dsimp only at hr
          rw [hb3] at hr
          rcases hb with hb | hb <;> rw [hb] at hr <;> exact absurd hr (by decide)
        · rw [hz, ← hjl] at ha; omega
        · rw [hz, ← hjl] at ha; omega
      · have h := last_sep T (by omega) (by rw [hz, hbt _ (by omega), show i - 3 = j by omega]; exact hb) (by rw [hz, hbt _ (by omega), show i - 2 = j + 1 by omega]; exact hb1) (by rw [hz, hbt _ (by omega), show i - 1 = j + 2 by omega]; exact hb2)
        rw [h] at hr
        cases hr
  · exact hge
end Go.Proofs.YtcijcifhdakhoaaFmt.Ex
