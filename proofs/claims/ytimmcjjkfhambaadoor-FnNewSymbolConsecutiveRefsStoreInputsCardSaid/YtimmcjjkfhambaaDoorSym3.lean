/-
  The parser that is made, the wrapper of newSymbol, the readers of symbols. Condition: at most 65536 symbols.
-/
import Derived.Test.YtimmcjjkfhambaaDoorSym2
import Derived.WalkLawsBesides
namespace Go.Proofs.YtimmcjjkfhambaaDoor.Sym
open Go.RowKit Go.ChangeShapes Go.WideShapes Go.ChangeAt Go.Proofs.YtimmcjjkfhambaaDoor.Ints

structure Ps (B : Nat) (w : World) (P : Nat) (src : Int) (tp : Bool) (n : Nat) (K : Nat → Int) (M : Nat → ByteArray) : Prop where
  ex : ∃ F v u, Core B w P F v u n (cond tp n 0) (syms K M n) (cond tp (zeros n) []) ∧ F 106 = v ∧ F 108 = u ∧ F 66 = .int .u32 src ∧ F 32 = .bool tp
  ge : B ≤ P
theorem Ps.next {B P n : Nat} {w w' : World} {src : Int} {tp : Bool} {K : Nat → Int} {M : Nat → ByteArray} (h : Ps B w P src tp n K M) (hb : Below w.heap.size w w') : Ps B w' P src tp n K M := by
  obtain ⟨F, v, u, hC, r⟩ := h.ex
  exact ⟨⟨F, v, u, hC.below hb, r⟩, h.ge⟩
theorem syms_len (K : Nat → Int) (M : Nat → ByteArray) : ∀ n, (syms K M n).length = n * 10
  | 0 => rfl
  | n + 1 => by simp [syms, syms_len K M n, symC]; omega
theorem syms_get (K : Nat → Int) (M : Nat → ByteArray) : ∀ (n i o : Nat), i < n → o < 10 → (syms K M n)[i * 10 + o]? = (symC (K i) (M i))[o]?
  | 0, i, o, hi, _ => absurd hi (Nat.not_lt_zero _)
  | n + 1, i, o, hi, ho => by
    have hl := syms_len K M n
    rcases Nat.lt_or_ge i n with h | h
    · rw [syms, List.getElem?_append_left (by omega)]
      exact syms_get K M n i o h ho
    · have e : i = n := by omega
      subst e
      rw [syms, List.getElem?_append_right (by omega), hl, show i * 10 + o - i * 10 = o by omega, Array.getElem?_toList]
theorem zeros_len : ∀ n, (zeros n).length = n
  | 0 => rfl
  | n + 1 => by simp [zeros, zeros_len n]
theorem zeros_get : ∀ (n i : Nat), i < n → (zeros n)[i]? = some (.int .u32 0)
  | 0, i, hi => absurd hi (Nat.not_lt_zero _)
  | n + 1, i, hi => by
    have hl := zeros_len n
    rcases Nat.lt_or_ge i n with h | h
    · rw [zeros, List.getElem?_append_left (by omega)]
      exact zeros_get n i h
    · have e : i = n := by omega
      subst e
      rw [zeros, List.getElem?_append_right (by omega), hl]
      simp
theorem Ps.sym {B P n i : Nat} {w : World} {src : Int} {tp : Bool} {K : Nat → Int} {M : Nat → ByteArray} (h : Ps B w P src tp n K M) (hi : i < n) :
    ∃ g c, w.cell? ⟨P, 106, none⟩ = some (.slice (some ⟨g, 0, none⟩) n c) ∧ n ≤ c ∧ w.cell? ⟨g, i * 10 + 1, none⟩ = some (.string (M i)) ∧ w.cell? ⟨g, i * 10 + 2, none⟩ = some (.int .u32 4294967295) ∧ w.cell? ⟨g, i * 10 + 3, none⟩ = some (.int .u32 4294967295) ∧ w.cell? ⟨g, i * 10 + 8, none⟩ = some (.int .u8 (K i)) := by
  obtain ⟨F, v, u, hC, h1, h2, h3, h4⟩ := h.ex
  have p := hC.row.cell (i := 106) (by omega)
  rcases hC.o1.2 with ⟨_, h0⟩ | ⟨g, cap, cur, e, _, _, hnc, _⟩
  · omega
  · have hc : ∀ o, o < 10 → w.cell? ⟨g, i * 10 + o, none⟩ = (symC (K i) (M i))[o]? := fun o ho => by
      have hh := syms_get K M n i o hi ho
      have hx : (symC (K i) (M i))[o]? = some ((symC (K i) (M i))[o]'(by simp [symC]; omega)) := Array.getElem?_eq_getElem _
      rw [hx] at hh ⊢
      have := hC.o1.cells (g := g) (by rw [e]; rfl) _ _ hh
      rwa [add_plain, Nat.zero_add] at this
    rw [h1, e] at p
    exact ⟨g, cap, p, hnc, hc 1 (by omega), hc 2 (by omega), hc 3 (by omega), hc 8 (by omega)⟩
theorem Ps.len {B P n : Nat} {w : World} {src : Int} {tp : Bool} {K : Nat → Int} {M : Nat → ByteArray} (h : Ps B w P src tp n K M) : ∃ a c, w.cell? ⟨P, 106, none⟩ = some (.slice a n c) := by
  obtain ⟨F, v, u, hC, h1, h2, h3, h4⟩ := h.ex
  have p := hC.row.cell (i := 106) (by omega)
  obtain ⟨a, c, rfl⟩ := slice_form hC.o1
  exact ⟨a, c, h1 ▸ p⟩
theorem Ps.lenT {B P n : Nat} {w : World} {src : Int} {tp : Bool} {K : Nat → Int} {M : Nat → ByteArray} (h : Ps B w P src tp n K M) : ∃ a c, w.cell? ⟨P, 108, none⟩ = some (.slice a (cond tp n 0) c) := by
  obtain ⟨F, v, u, hC, h1, h2, h3, h4⟩ := h.ex
  have p := hC.row.cell (i := 108) (by omega)
  obtain ⟨a, c, rfl⟩ := slice_form hC.o2
  exact ⟨a, c, h2 ▸ p⟩
theorem Ps.ts {B P n i : Nat} {w : World} {src : Int} {K : Nat → Int} {M : Nat → ByteArray} (h : Ps B w P src true n K M) (hi : i < n) :
    ∃ g c, w.cell? ⟨P, 108, none⟩ = some (.slice (some ⟨g, 0, none⟩) n c) ∧ w.cell? ⟨g, i, none⟩ = some (.int .u32 0) := by
  obtain ⟨F, v, u, hC, h1, h2, h3, h4⟩ := h.ex
  have p := hC.row.cell (i := 108) (by omega)
  rcases hC.o2.2 with ⟨_, h0⟩ | ⟨g, cap, cur, e, _, _, hnc, _⟩
  · exact absurd h0 (by simp; omega)
  · have := hC.o2.cells (g := g) (by rw [e]; rfl) _ _ (zeros_get n i hi)
    rw [add_plain, Nat.zero_add] at this
    rw [h2, e] at p
    exact ⟨g, cap, p, this⟩
section
variable (B P n i : Nat) (src : Int) (tp : Bool) (K : Nat → Int) (M : Nat → ByteArray) (w : World)
theorem symKind (h : Ps B w P src tp n K M) (hi : i < n) (hn : n ≤ 65536) (hk : 0 ≤ K i ∧ K i ≤ 255) : Calls Tryd.prog 15 #[.pointer (some ⟨P, 0, none⟩), .int .i64 i] w fun e w' => e = .returned (.int .u8 (K i)) ∧ w = w' := by
  obtain ⟨g, c, p, hc, c1, c2, c3, c8⟩ := h.sym hi
  clear h
  have hk2 : K i % 256 = K i := by omega
  go_enter Tryd.func15, Tryd.ntmps15
  go_wp2_with fail
  go_ret
  exact ⟨rfl, rfl⟩
theorem symName (h : Ps B w P src tp n K M) (hi : i < n) (hn : n ≤ 65536) : Calls Tryd.prog 16 #[.pointer (some ⟨P, 0, none⟩), .int .i64 i] w fun e w' => e = .returned (.string (M i)) ∧ w = w' := by
  obtain ⟨g, c, p, hc, c1, c2, c3, c8⟩ := h.sym hi
  clear h
  go_enter Tryd.func16, Tryd.ntmps16
  go_wp2_with fail
  go_ret
  exact ⟨rfl, rfl⟩
theorem symLink (h : Ps B w P src tp n K M) (hi : i < n) (hn : n ≤ 65536) (g0 : w.cell? ⟨0, 0, none⟩ = some (.int .u32 4294967295)) (g1 : w.cell? ⟨0, 1, none⟩ = some (.int .u32 4294967295)) : Calls Tryd.prog 17 #[.pointer (some ⟨P, 0, none⟩), .int .i64 i] w fun e w' => e = .returned (.int .i64 (-1)) ∧ Below w.heap.size w w' := by
  obtain ⟨g, c, p, hc, c1, c2, c3, c8⟩ := h.sym hi
  clear h
  have l0 := lt_of_cell g0
  go_enter Tryd.func17, Tryd.ntmps17
  go_wp2_with fail
  go_ret
  exact ⟨rfl, (Below.refl _ _).alloc (Nat.le_refl _) _⟩
theorem symCount (h : Ps B w P src tp n K M) : Calls Tryd.prog 11 #[.pointer (some ⟨P, 0, none⟩)] w fun e w' => e = .returned (.int .i64 n) ∧ w = w' := by
  obtain ⟨a, c, p⟩ := h.len
  clear h
  go_enter Tryd.func11, Tryd.ntmps11
  go_wp2_with fail
  go_ret
  exact ⟨rfl, rfl⟩
theorem tsLen (h : Ps B w P src tp n K M) : Calls Tryd.prog 12 #[.pointer (some ⟨P, 0, none⟩)] w fun e w' => e = .returned (.int .i64 (cond tp n 0 : Nat)) ∧ w = w' := by
  obtain ⟨a, c, p⟩ := h.lenT
  clear h
  generalize (cond tp n 0) = t at *
  go_enter Tryd.func12, Tryd.ntmps12
  go_wp2_with fail
  go_ret
  exact ⟨rfl, rfl⟩
theorem tsCount (h : Ps B w P src true n K M) (hi : i < n) (hn : n ≤ 65536) : Calls Tryd.prog 14 #[.pointer (some ⟨P, 0, none⟩), .int .i64 i] w fun e w' => e = .returned (.int .u32 0) ∧ w = w' := by
  obtain ⟨g, c, p, c1⟩ := h.ts hi
  clear h
  go_enter Tryd.func14, Tryd.ntmps14
  go_wp2_with fail
  go_ret
  exact ⟨rfl, rfl⟩
theorem wantTS : Calls Tryd.prog 13 #[.bool tp, .int .i64 n] w fun e w' => e = .returned (.int .i64 (cond tp n 0 : Nat)) ∧ w = w' := by
  cases tp
  all_goals
    go_enter Tryd.func13, Tryd.ntmps13
    go_wp2_with fail
    go_ret
    exact ⟨rfl, rfl⟩
def NewZ (B P n : Nat) (src : Int) (tp : Bool) (K : Nat → Int) (M : Nat → ByteArray) (w : World) (e : Ending) (w' : World) : Prop := e = .returned (.tuple #[.int .u32 src, .int .u32 n]) ∧ Below B w w' ∧ Ps B w' P src tp (n + 1) K M
theorem newSymZ (h : Ps B w P src tp n K M) (hB0 : 0 < B) (hn : n < 65536) (g0 : w.cell? ⟨0, 0, none⟩ = some (.int .u32 4294967295)) (g1 : w.cell? ⟨0, 1, none⟩ = some (.int .u32 4294967295)) (hk : 0 ≤ K n ∧ K n ≤ 255) :
    Calls Tryd.prog 9 #[.pointer (some ⟨P, 0, none⟩), .int .u8 (K n), .string (M n)] w (NewZ B P n src tp K M w) := by
  have hk2 : K n % 256 = K n := by omega
  have lP : P < w.heap.size := by obtain ⟨F, v, u, hC, _⟩ := h.ex; exact hC.row.lt
  go_enter Tryd.func9, Tryd.ntmps9
  go_wp2_with fail
  obtain ⟨F, v, u, hC, h1, h2, h3, h4⟩ := h.ex
  go_at_call 18
  refine (newSymbol B P n (cond tp n 0) src (K n) tp (M n) F v u _ _ w hC h.ge hB0 h3 h4 h1 h2 hn (by cases tp <;> simp <;> omega) g0 g1).mono ?_
  rintro e w1 ⟨rfl, hk1, F', v', u', hC', a1, a2, a3, a4⟩
  have hP : Ps B w1 P src tp (n + 1) K M := by
    refine ⟨⟨F', v', u', ?_, a1, a2, a3.trans h3, a4.trans h4⟩, h.ge⟩
    cases tp
    · exact hC'
    · exact hC'
  replace hk1 := Lib.hid hk1
  replace hP := Lib.hid hP
  clear hC hC' h1 h2 h3 h4 a1 a2 a3 a4
  go_wp2_with fail
  go_region
  go_wp2_with fail
  have hB1 : B ≤ w1.heap.size := by have := h.ge; have := hk1.out.bel.size; omega
  exact bodyPost_ret (v := .tuple #[.int .u32 src, .int .u32 n]) (by simp [results, Tryd.results9, go_sem]) rfl ⟨rfl, (hk1.out.bel.alloc hB1 _).drew, hP.out.next ((Below.refl _ _).alloc (Nat.le_refl _) _).drew⟩
end
theorem parser_cells : ∃ C : Array Value, Tryd.prog.built 166 [] = some C ∧ C.size = 353 ∧ C[106]? = some (.slice none 0 0) ∧ C[108]? = some (.slice none 0 0) := by
  have h1 : (Tryd.prog.built 166 []).isSome = true := by kernel_rfl
  obtain ⟨C, hC⟩ := Option.isSome_iff_exists.1 h1
  have h2 : (Tryd.prog.built 166 []).map (·.size) = some 353 := by kernel_rfl
  have h3 : (Tryd.prog.built 166 []).bind (·[106]?) = some (.slice none 0 0) := by kernel_rfl
  have h4 : (Tryd.prog.built 166 []).bind (·[108]?) = some (.slice none 0 0) := by kernel_rfl
  rw [hC] at h2 h3 h4
  exact ⟨C, hC, by simpa using h2, by simpa using h3, by simpa using h4⟩
def NewQ (src : Int) (tp : Bool) (K : Nat → Int) (M : Nat → ByteArray) (w : World) (e : Ending) (w' : World) : Prop := ∃ P, e = .returned (.pointer (some ⟨P, 0, none⟩)) ∧ Below w.heap.size w w' ∧ Ps w.heap.size w' P src tp 0 K M
theorem new_q (src : Int) (tp : Bool) (K : Nat → Int) (M : Nat → ByteArray) (w : World) (A : Array Value) (hs : A.size = 353) (h1 : A[106]? = some (.slice none 0 0)) (h2 : A[108]? = some (.slice none 0 0)) (h3 : A[66]? = some (.int .u32 src)) (h4 : A[32]? = some (.bool tp)) :
    NewQ src tp K M w (.returned (.pointer (some ⟨w.heap.size, 0, none⟩))) (w.alloc (.cells A 166)) := by
  have hr := World.rowIs_alloc w A 166 (fun j => A.getD j undef) (fun i hi => by simp [Array.getD, hi])
  rw [hs] at hr
  have e : ∀ k v, A[k]? = some v → A.getD k undef = v := fun k v h => by
    obtain ⟨hl, he⟩ := Array.getElem?_eq_some_iff.1 h
    simp [Array.getD, hl, he]
  refine ⟨_, rfl, (Below.refl _ _).alloc (Nat.le_refl _) _, ⟨⟨_, .slice none 0 0, .slice none 0 0, ⟨hr, World.ownsRow_nil _ _ _ _, ?_⟩, e _ _ h1, e _ _ h2, e _ _ h3, e _ _ h4⟩, Nat.le_refl _⟩⟩
  cases tp
  · exact World.ownsRow_nil _ _ _ _
  · exact World.ownsRow_nil _ _ _ _
set_option maxRecDepth 100000 in
set_option maxHeartbeats 1000000 in
theorem newParser (src : Int) (tp : Bool) (K : Nat → Int) (M : Nat → ByteArray) (w : World) : Calls Tryd.prog 8 #[.int .u32 src, .bool tp] w (NewQ src tp K M w) := by
  obtain ⟨C, hC, hsz, h106, h108⟩ := parser_cells
  replace hC := Lib.hid hC
  replace h106 := Lib.hid h106
  replace h108 := Lib.hid h108
  go_enter Tryd.func8, Tryd.ntmps8
  go_wp2_with (refine wpList_buildTo2 rfl 166 _ rfl _ rfl [] (by kernel_rfl) C hC.out ?_)
  go_ret
  have h5 := (Array.getElem?_eq_some_iff.1 h106.out).2
  have h6 := (Array.getElem?_eq_some_iff.1 h108.out).2
  exact new_q src tp K M w _ (by simp [hsz]) (by simp [hsz, h5]) (by simp [hsz, h6]) (by simp [hsz]) (by simp [hsz])
end Go.Proofs.YtimmcjjkfhambaaDoor.Sym
