/-
  zzConcat: the joined list reads as the first list and then the second. Condition: at most 65536 codes each.
-/
import Derived.Test.YtfjdpnjdikgofaaScope2
import Derived.Maps.AppendAt
namespace Go.Proofs.Ytfjdpnjdikgofaa.Scope
open Go.RowKit Go.ChangeShapes Go.WideShapes Go.ChangeAt Go.Proofs.Ytfjdpnjdikgofaa.Ints

def cat (f : Nat → Int) (n : Nat) (g : Nat → Int) : Nat → Int := fun i => if i < n then f i else g (i - n)
def vals (h : Nat → Int) (r : Nat) : List Value := (List.range r).map fun i => Value.int .i8 (h i)
theorem vals_succ (h : Nat → Int) (r : Nat) : vals h (r + 1) = vals h r ++ [.int .i8 (h r)] := by simp [vals, List.range_succ]
theorem info8 : (Try.prog.info? 166).map (fun i => (i.zero, i.size, i.bytes)) = some (some (.int .i8 0), 1, 1) := by kernel_rfl
/-- A list that is being joined: r elements are there. -/
structure Cat (w wr : World) (v : Value) (r : Nat) (h : Nat → Int) : Prop where
  own : wr.ownsRow w.heap.size 166 1 v r (vals h r)
  below : Below w.heap.size w wr
  some_ : v ≠ .slice none 0 0
theorem Cat.step {w wr w1 : World} {v v' : Value} {r : Nat} {h : Nat → Int} (hc : Cat w wr v r h) {o : Obj} (hown : w1.ownsRow w.heap.size 166 1 v' (r + 1) (vals h r ++ [.int .i8 (h r)])) (hg : (wr.alloc o).grownBy w1 v.ownBlock) (hn : v' = .slice none 0 0 ↔ v = .slice none 0 0 ∧ 1 = 0) : Cat w w1 v' (r + 1) h :=
  ⟨by rw [vals_succ]; exact hown, (hc.below.alloc hc.below.size o).grown hg (hc.below.alloc hc.below.size o).size (fun k hk => (hc.own.lt k hk).1), fun e => absurd (hn.1 e).2 (by decide)⟩
theorem Cat.ints {w wr : World} {v : Value} {r : Nat} {h : Nat → Int} (hc : Cat w wr v r h) : ∃ a c, v = .slice (some a) r c ∧ r ≤ c ∧ IntsAt .i8 wr (some a) r h := by
  rcases hc.own.2 with ⟨e, _⟩ | ⟨g, cap, cur, rfl, hb, hh, hle, _, hsz, htk⟩
  · exact absurd e hc.some_
  · refine ⟨_, cap, rfl, hle, ?_⟩
    by_cases h0 : r = 0
    · exact .inl h0
    · refine .inr ⟨g, 0, rfl, (Array.getElem?_eq_some_iff.1 hh).1, fun i hi => ?_⟩
      have := hc.own.cells (g := g) rfl i (.int .i8 (h i)) (by simp [vals, hi])
      rw [add_plain] at this
      exact this
theorem one_new (wr : World) (v : Value) (T : TypeId) : ∀ j u, ([v] : List Value)[j]? = some u → (wr.alloc (.cells #[v] T)).cell? ((⟨wr.heap.size, 0, none⟩ : Addr).add j) = some u := fun j u hu => by
  have hj : j = 0 := by
    rcases Nat.eq_zero_or_pos j with h | h
    · exact h
    · rw [List.getElem?_eq_none (by simp; omega)] at hu; cases hu
  subst hj
  cases hu
  rw [add_plain]
  go_simp
theorem one_cell (x : Int) : ∀ u ∈ ([Value.int .i8 x] : List Value), u.oneCell' = true := fun u hu => by
  simp at hu; subst hu; rfl
def Cated (n : Nat) (h : Nat → Int) (w : World) (e : Ending) (w' : World) : Prop := ∃ a c, e = .returned (.slice (some a) n c) ∧ n ≤ c ∧ IntsAt .i8 w' (some a) n h ∧ Below w.heap.size w w'
set_option maxRecDepth 100000 in
set_option maxHeartbeats 2000000 in
theorem concat (o1 o2 : Option Addr) (n1 n2 c1 c2 : Nat) (f1 f2 : Nat → Int) (w : World) (hn1 : n1 ≤ 65536) (hn2 : n2 ≤ 65536) (hI1 : IntsAt .i8 w o1 n1 f1) (hI2 : IntsAt .i8 w o2 n2 f2) :
    Calls Try.prog 35 #[.slice o1 n1 c1, .slice o2 n2 c2] w (Cated (n1 + n2) (cat f1 n1 f2) w) := by
  obtain ⟨i0, hi, hz0, hz1, hz2⟩ := info_parts info8
  have hmk : ∀ w : World, (Instr.makeSlice 106 (.int .i64 0) (.int .i64 ((n1 : Int) + n2))).run Try.prog w = .ok (.slice (some ⟨w.heap.size, 0, none⟩) 0 (n1 + n2)) (w.alloc (.cells (madeCells #[.int .i8 0] (n1 + n2)) 166)) := fun w => by
    have := run_make_rowN (P := Try.prog) 106 166 i0 _ Try.underlying106 hi hz0 .i64 .i64 0 (n1 + n2) (Nat.zero_le _) (by rw [hz2]; omega) (by omega) w
    rw [hz1, Nat.mul_one] at this
    rw [← Int.natCast_add]
    exact this
  go_enter Try.func35, Try.ntmps35
  go_wp2_with fail
  clear hmk
  go_loopg [5, 6] n1 (fun gk u i wr => ∃ r : Nat, r ≤ n1 ∧ gk = n1 - r ∧ i = .int .i64 r ∧ Cat w wr u r (cat f1 n1 f2))
  case atStart => exact ⟨0, Nat.zero_le _, rfl, rfl, ⟨World.ownsRow_made w _ _ (Nat.le_refl _) (by simp only [maxLen]; omega) (by simp [size_madeCells]), (Below.refl _ _).alloc (Nat.le_refl _) _, fun h => by cases h⟩⟩
  case round =>
    obtain ⟨r, hr, rfl, rfl, hC⟩ := hrel
    rcases Nat.lt_or_ge r n1 with hlt | hge
    · rcases hI1 with h0 | ⟨bb, off, he, hbb, hc⟩
      · omega
      · cases he
        have g2 : wr.cell? ⟨bb, off + r, none⟩ = some (.int .i8 (cat f1 n1 f2 r)) := (hC.below.cell (by exact hbb)).trans ((hc r hlt).trans (by simp [cat, hlt]))
        clear hc
        generalize cat f1 n1 f2 = h at *
        have hk1 : r + 1 ≤ maxLen := by simp only [maxLen]; omega
        have hk2 : (r + 1) * 1 ≤ 140737488355328 := by omega
        have hk3 : w.heap.size ≤ (wr.alloc (.cells #[.int .i8 (h r)] 166)).heap.size := by have := hC.below.size; simp; omega
        go_wp2_with (at_builtin; refine wpList_append_own _ rfl (.tmp 20) (.tmp 25) _ rfl w.heap.size 166 i0 (.int .i8 0) 1 1 Try.underlying106 hi hz0 hz1 hz2 rfl (by omega) u5 r (vals h r) rfl (hC.own.alloc _) ⟨wr.heap.size, 0, none⟩ 1 1 [.int .i8 (h r)] rfl rfl (one_new _ _ _) (one_cell _) hk1 hk2 hk3 ?_; intro v' w1 ho hg hn)
        have hC2 := hC.step ho hg hn
        clear ho hg hn hk1 hk2 hk3 hC
        go_wp2_with fail
        go_roundg (n1 - (r + 1))
        case measure => omega
        case rel => exact ⟨r + 1, by omega, rfl, rfl, hC2⟩
    · have hrn : r = n1 := by omega
      subst hrn
      clear hI1
      go_wp2_with fail
      go_loopg [5, 7] n2 (fun gk u i wr => ∃ q : Nat, q ≤ n2 ∧ gk = n2 - q ∧ i = .int .i64 q ∧ Cat w wr u (r + q) (cat f1 r f2))
      case atStart => exact ⟨0, Nat.zero_le _, rfl, rfl, hC⟩
      case round =>
        clear hC
        obtain ⟨q, hq, rfl, rfl, hC⟩ := hrel
        rcases Nat.lt_or_ge q n2 with hlt | hge
        · rcases hI2 with h0 | ⟨bb, off, he, hbb, hc⟩
          · omega
          · cases he
            have g2 : wr.cell? ⟨bb, off + q, none⟩ = some (.int .i8 (cat f1 r f2 (r + q))) := (hC.below.cell (by exact hbb)).trans ((hc q hlt).trans (by unfold cat; rw [if_neg (by omega), Nat.add_sub_cancel_left]))
            clear hc
            generalize cat f1 r f2 = h at *
            have hk1 : r + q + 1 ≤ maxLen := by simp only [maxLen]; omega
            have hk2 : (r + q + 1) * 1 ≤ 140737488355328 := by omega
            have hk3 : w.heap.size ≤ (wr.alloc (.cells #[.int .i8 (h (r + q))] 166)).heap.size := by have := hC.below.size; simp; omega
            go_wp2_with (at_builtin; refine wpList_append_own _ rfl (.tmp 33) (.tmp 38) _ rfl w.heap.size 166 i0 (.int .i8 0) 1 1 Try.underlying106 hi hz0 hz1 hz2 rfl (by omega) u5 (r + q) (vals h (r + q)) rfl (hC.own.alloc _) ⟨wr.heap.size, 0, none⟩ 1 1 [.int .i8 (h (r + q))] rfl rfl (one_new _ _ _) (one_cell _) hk1 hk2 hk3 ?_; intro v' w1 ho hg hn)
            have hC2 := hC.step ho hg hn
            clear ho hg hn hk1 hk2 hk3 hC
            go_wp2_with fail
            go_roundg (n2 - (q + 1))
            case measure => omega
            case rel => exact ⟨q + 1, by omega, rfl, rfl, hC2⟩
        · have hrn : q = n2 := by omega
          subst hrn
          clear hI2
          obtain ⟨a, c, rfl, hle, hi⟩ := hC.ints
          go_wp2_with fail
          go_ret
          exact ⟨a, c, rfl, hle, hi, hC.below⟩
end Go.Proofs.Ytfjdpnjdikgofaa.Scope
