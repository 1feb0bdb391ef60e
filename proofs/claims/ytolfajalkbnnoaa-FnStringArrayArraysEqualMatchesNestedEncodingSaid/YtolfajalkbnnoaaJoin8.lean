/-
  EnsureNewlineAtEnd on what a script made; the final buffers' length; a fresh joiner. Condition: at most 2^20 items and 2^21 bytes.
-/
import Derived.Test.YtolfajalkbnnoaaJoin7
namespace Go.Proofs.Ytolfajalkbnnoaa.Join
open Go.RowKit Go.ChangeShapes Go.WideShapes Go.ChangeAt Go.Proofs.Ytolfajalkbnnoaa.Ints

theorem made_new (w : World) : Made w.heap.size (w.alloc (.cells #[.slice none 0 0, .slice none 0 0, .int .u32 0, .int .u8 0] 30)) w.heap.size ⟨[], [], 0, 0⟩ := by
  refine ⟨[], rfl, ⟨⟨.slice none 0 0, .slice none 0 0, ⟨(World.rowIs_alloc w _ _ (jrow (.slice none 0 0) (.slice none 0 0) 0 0) (fun i hi => ?_)), ⟨rfl, .inl ⟨rfl, rfl⟩⟩, ⟨rfl, .inl ⟨rfl, rfl⟩⟩, (fun p hp => by cases hp)⟩⟩, Nat.le_refl _, (fun p hp => by cases hp), (fun p hp => by cases hp), Nat.zero_le _, Nat.zero_le _, Nat.zero_le _⟩⟩
  match i, hi with
  | 0, _ | 1, _ | 2, _ | 3, _ => rfl
def Sc.ens (x : Sc) : Sc := if x.L = 0 ∨ x.c = 10 then x else ⟨x.S ++ [(nl, x.L)], x.T, x.L + 1, 10⟩
theorem Sc.ens_ens (x : Sc) : x.ens.ens = x.ens := by
  by_cases h : x.L = 0 ∨ x.c = 10
  · simp [Sc.ens, h]
  · simp [Sc.ens, h]
theorem Sc.ens_end (x : Sc) : x.ens.L = 0 ∨ x.ens.c = 10 := by
  by_cases h : x.L = 0 ∨ x.c = 10
  · rw [show x.ens = x by simp [Sc.ens, h]]; exact h
  · simp [Sc.ens, h]
def Ensured (B : Nat) (w : World) (J : Nat) (x : Sc) (e : Ending) (w' : World) : Prop := e = .returned (.tuple #[]) ∧ Made B w' J x.ens ∧ Below B w w'
theorem ensure (B J : Nat) (x : Sc) (w : World) (h : Made B w J x) (hL : x.L + 1 ≤ 2097152) (hl : x.S.length + 1 ≤ 1048576) :
    Calls Try.prog 18 #[.pointer (some ⟨J, 0, none⟩)] w (Ensured B w J x) := by
  obtain ⟨bs, hT, hJ⟩ := h
  by_cases hc : x.L = 0 ∨ x.c = 10
  · refine (ensureNo B J x.S bs x.L x.c w hJ hc).mono ?_
    rintro e w' ⟨rfl, rfl⟩
    exact ⟨rfl, by rw [show x.ens = x by simp [Sc.ens, hc]]; exact ⟨bs, hT, hJ⟩, Below.refl _ _⟩
  · refine (ensureYes B J x.S bs x.L x.c w hJ (by omega) (by omega) hL hl).mono ?_
    rintro e w' ⟨rfl, hJ', hb⟩
    exact ⟨rfl, by rw [show x.ens = ⟨x.S ++ [(nl, x.L)], x.T, x.L + 1, 10⟩ by simp [Sc.ens, hc]]; exact ⟨bs, hT, hJ'⟩, hb⟩
theorem putl {b : List UInt8} {it : List UInt8 × Nat} (h : it.2 + it.1.length ≤ b.length) : (put b it).length = b.length := by
  simp [put]; omega
theorem puts_len (l : List (List UInt8 × Nat)) : ∀ b : List UInt8, (∀ p ∈ l, p.2 + p.1.length ≤ b.length) → (l.foldl put b).length = b.length := by
  induction l with
  | nil => intro b _; rfl
  | cons a l ih =>
    intro b h
    have h1 := putl (h a (by simp))
    rw [List.foldl_cons, ih _ (fun p hp => by rw [h1]; exact h p (by simp [hp])), h1]
theorem doneF_len (S T : List (List UInt8 × Nat)) (L : Nat) (hS : ∀ p ∈ S, p.2 + p.1.length ≤ L) (hT : ∀ p ∈ T, p.2 + p.1.length ≤ L) : (doneF S T L).length ≤ L := by
  have slow : (T.foldl put (S.foldl put (List.replicate L 0))).length ≤ L := by
    have h1 := puts_len S (List.replicate L 0) (by simpa using hS)
    rw [puts_len T _ (by rw [h1]; simpa using hT), h1]
    simp
  match S, T, slow, hT with
  | [], [], h, _ => exact h
  | [], [(d, o)], _, hT => have := hT _ (List.mem_singleton.2 rfl); simp [doneF] at this ⊢; omega
  | [], _ :: _ :: _, h, _ => exact h
  | _ :: _, _, h, _ => exact h
theorem Jn.len {B J : Nat} {w : World} {ss : List (ByteArray × Nat)} {bs : List Bt} {L : Nat} {c : Int} (h : Jn B w J ss bs L c) : (doneF (absS ss) (absB bs) L).length ≤ 2097152 := by
  refine Nat.le_trans (doneF_len _ _ _ (fun p hp => ?_) (fun p hp => ?_)) h.lL
  · obtain ⟨q, hq, rfl⟩ := List.mem_map.1 hp
    have := h.fitS q hq
    simpa using this
  · obtain ⟨q, hq, rfl⟩ := List.mem_map.1 hp
    obtain ⟨sl, bl, hC⟩ := h.ex
    have h1 := h.fitB q hq
    have h2 := (hC.dat q hq).1
    show q.o + q.d.length ≤ L
    omega
/-- A single byte item lies at offset 0. -/
def Sc.lone (x : Sc) : Prop := x.S = [] → ∀ p, x.T = [p] → p.2 = 0
theorem scr_zero (f : Nat → ByteArray) (k : Nat → Bool) : ∀ r, (scr f k r).S = [] → (scr f k r).T = [] → (scr f k r).L = 0
  | 0 => fun _ _ => rfl
  | r + 1 => by
    simp only [scr, Sc.step]
    split <;> simp
theorem scr_lone (f : Nat → ByteArray) (k : Nat → Bool) : ∀ r, (scr f k r).lone
  | 0 => fun _ p h => by cases h
  | r + 1 => by
    have ih := scr_zero f k r
    intro hS p hT
    simp only [scr, Sc.step] at hS hT
    split at hS
    · rename_i hk
      simp only [hk, if_true] at hT
      have h0 : (scr f k r).T = [] := by
        cases hq : (scr f k r).T with
        | nil => rfl
        | cons a l => rw [hq] at hT; simp at hT
      rw [h0] at hT
      have := ih hS h0
      simp only [List.nil_append, List.cons.injEq, and_true] at hT
      rw [← hT]
      exact this
    · simp at hS
theorem Sc.lone_ens {x : Sc} (h : x.lone) : x.ens.lone := by
  by_cases hc : x.L = 0 ∨ x.c = 10
  · simpa [Sc.ens, hc] using h
  · intro h1
    simp [Sc.ens, hc] at h1
/-- The bytes that a joiner gives in the end. -/
def Sc.out (x : Sc) : List UInt8 := doneF (absS x.S) x.T x.L
def Given (B : Nat) (w : World) (x : Sc) (e : Ending) (w' : World) : Prop := ∃ o cap, e = .returned (.slice o x.out.length cap) ∧ BytesAt w' o x.out.length x.out ∧ Below w.heap.size w w' ∧ x.out.length ≤ 2097152
theorem doneM (B J : Nat) (x : Sc) (w : World) (h : Made B w J x) (h1 : x.lone) : Calls Try.prog 14 #[.pointer (some ⟨J, 0, none⟩)] w (Given B w x) := by
  obtain ⟨bs, hT, hJ⟩ := h
  have hl := hJ.len
  refine (done B J x.S bs x.L x.c w hJ (fun hS y hy => ?_)).mono ?_
  · have := h1 hS (y.d, y.o) (by rw [← hT, hy]; rfl)
    exact this
  · rintro e w' ⟨o, n, cap, rfl, hb, hB⟩
    rw [hT] at hb hl
    have hn := hb.1
    subst hn
    exact ⟨o, cap, rfl, hb, hB, hl⟩
theorem Sc.ens_L (x : Sc) : x.ens.L ≤ x.L + 1 := by
  by_cases hc : x.L = 0 ∨ x.c = 10
  · simp [Sc.ens, hc]
  · simp [Sc.ens, hc]
theorem Sc.ens_S (x : Sc) : x.ens.S.length ≤ x.S.length + 1 := by
  by_cases hc : x.L = 0 ∨ x.c = 10
  · simp [Sc.ens, hc]
  · simp [Sc.ens, hc]
end Go.Proofs.Ytolfajalkbnnoaa.Join
