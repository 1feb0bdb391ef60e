/-
  Contracts: what extractPrivateIndex answers over a parser whose unsupported features are none. No condition beyond the ones stated.
-/
import Derived.Test.YtihpdmoonddjmaaPriv2
namespace Go.Proofs.Ytihpdmoonddjmaa.Priv
open Go.RowKit Go.Proofs.Ytihpdmoonddjmaa.Ints

/-- What is known of the parser and of the index node. -/
structure Given (w : World) (P Q S X B : Nat) (k tl il : Int) (m : Bool) : Prop where
  p1 : w.cell? ⟨P, 106, none⟩ = some (.slice (some ⟨S, 0, none⟩) 9 9)
  p2 : w.cell? ⟨P, 23, none⟩ = some (.int .u64 0)
  s1 : w.cell? ⟨S, 8, none⟩ = some (.int .u8 k)
  s2 : w.cell? ⟨S, 7, none⟩ = some (.int .u16 (cond m 8 0))
  q1 : w.cell? ⟨Q, 1, none⟩ = some (.int .u32 0)
  x0 : w.cell? ⟨X, 0, none⟩ = some (.iface 64 (.pointer (some ⟨B, 0, none⟩)))
  x1 : w.cell? ⟨X, 1, none⟩ = some (.int .i32 tl)
  x2 : w.cell? ⟨X, 2, none⟩ = some (.iface 40 (.pointer (some ⟨Q, 0, none⟩)))
  x3 : w.cell? ⟨X, 3, none⟩ = some (.int .i32 il)
theorem Given.below {w w' : World} {P Q S X B : Nat} {k tl il : Int} {m : Bool} (h : Given w P Q S X B k tl il m) (hb : Below w.heap.size w w') : Given w' P Q S X B k tl il m :=
  ⟨(hb.cell (lt_of_cell h.p1)).trans h.p1, (hb.cell (lt_of_cell h.p2)).trans h.p2, (hb.cell (lt_of_cell h.s1)).trans h.s1, (hb.cell (lt_of_cell h.s2)).trans h.s2, (hb.cell (lt_of_cell h.q1)).trans h.q1,
   (hb.cell (lt_of_cell h.x0)).trans h.x0, (hb.cell (lt_of_cell h.x1)).trans h.x1, (hb.cell (lt_of_cell h.x2)).trans h.x2, (hb.cell (lt_of_cell h.x3)).trans h.x3⟩

def yes (B Q : Nat) (tl il : Int) : Value := .tuple #[.agg #[.iface 64 (.pointer (some ⟨B, 0, none⟩)), .int .i32 tl], .agg #[.int .i32 il], .pointer (some ⟨Q, 0, none⟩)]
def no : Value := .tuple #[.agg #[.nilIface, .int .i32 0], .agg #[.int .i32 0], .pointer none]
def Ext (B Q : Nat) (tl il : Int) (m : Bool) (w : World) (e : Ending) (w' : World) : Prop := e = .returned (cond m (yes B Q tl il) no) ∧ Below w.heap.size w w'
set_option maxHeartbeats 1000000 in
theorem extract_yes (P Q S X B : Nat) (k tl il loc : Int) (hk : Kinds k) (w : World) (h : Given w P Q S X B k tl il true) :
    Calls Try.prog 40 #[.pointer (some ⟨P, 0, none⟩), .agg #[.iface 157 (.pointer (some ⟨X, 0, none⟩)), .int .i32 loc]] w (Ext B Q tl il true w) := by
  have hX : X < w.heap.size := lt_of_cell h.x0
  have hP : P < w.heap.size := lt_of_cell h.p1
  have hQ : Q < w.heap.size := lt_of_cell h.q1
  have hX1 : X < w.heap.size + 1 := by omega
  have hX2 : X < w.heap.size + 1 + 1 := by omega
  have ti := ta_index ⟨X, 0, none⟩
  have tp := ta_priv ⟨Q, 0, none⟩
  have x2 := h.x2
  go_enter Try.func40, Try.ntmps40
  go_wp2_with fail
  generalize hW : ((w.alloc (.cells #[.iface 157 (.pointer (some ⟨X, 0, none⟩)), .int .i32 loc] 39)).alloc (.cells #[.nilIface, .int .i32 0] 39)).alloc (.cells #[.int .i32 0] 31) = W
  have hB : Below w.heap.size w W := by subst hW; exact (((Below.refl _ _).alloc (Nat.le_refl _) _).alloc (by simp) _).alloc (by simp; omega) _
  have hN : w.heap.size + 3 = W.heap.size := by subst hW; simp
  have k1 : W.cell? ⟨w.heap.size + 1, 0, none⟩ = some .nilIface ∧ W.frozen? ⟨w.heap.size + 1, 0, none⟩ = false := by subst hW; constructor <;> go_simp
  have k2 : W.cell? ⟨w.heap.size + 1, 1, none⟩ = some (.int .i32 0) ∧ W.frozen? ⟨w.heap.size + 1, 1, none⟩ = false := by subst hW; constructor <;> go_simp
  have k3 : W.cell? ⟨w.heap.size + 1 + 1, 0, none⟩ = some (.int .i32 0) ∧ W.frozen? ⟨w.heap.size + 1 + 1, 0, none⟩ = false := by subst hW; constructor <;> go_simp
  have hG := h.below hB
  clear hW h x2 ti tp
  refine (needs P Q S k true hk W hG.p1 hG.q1 hG.p2 hG.s1 hG.s2).mono ?_
  rintro e w1 ⟨rfl, B1⟩
  have h0 := (B1.cell (lt_of_cell hG.x0)).trans hG.x0
  have h1 := (B1.cell (lt_of_cell hG.x1)).trans hG.x1
  have h3 := (B1.cell (lt_of_cell hG.x3)).trans hG.x3
  have j1 := (B1.cell (lt_of_cell k1.1)).trans k1.1
  have j2 := (B1.cell (lt_of_cell k2.1)).trans k2.1
  have j3 := (B1.cell (lt_of_cell k3.1)).trans k3.1
  have l1 := (B1.frozen (p := ⟨w.heap.size + 1, 0, none⟩) (lt_of_cell k1.1)).trans k1.2
  have l2 := (B1.frozen (p := ⟨w.heap.size + 1, 1, none⟩) (lt_of_cell k2.1)).trans k2.2
  have l3 := (B1.frozen (p := ⟨w.heap.size + 1 + 1, 0, none⟩) (lt_of_cell k3.1)).trans k3.2
  have B2 := hB.trans (B1.mono hB.size)
  have n1 : ¬ (X = w.heap.size + 1) := by omega
  have n2 : ¬ (X = w.heap.size + 1 + 1) := by omega
  clear hG hB B1 k1 k2 k3 hN
  go_wp2_with fail
  go_region
  go_wp2_with fail
  refine bodyPost_ret (v := yes B Q tl il) (by simp [results, Try.results40, go_sem, yes, j1, j2, j3]) rfl ⟨rfl, ?_⟩
  exact (((B2.setCell (by show w.heap.size ≤ w.heap.size + 1; omega) _).setCell (by show w.heap.size ≤ w.heap.size + 1; omega) _).setCell (by show w.heap.size ≤ w.heap.size + 1 + 1; omega) _).drew
set_option maxHeartbeats 1000000 in
theorem extract_no (P Q S X B : Nat) (k tl il loc : Int) (hk : Kinds k) (w : World) (h : Given w P Q S X B k tl il false) :
    Calls Try.prog 40 #[.pointer (some ⟨P, 0, none⟩), .agg #[.iface 157 (.pointer (some ⟨X, 0, none⟩)), .int .i32 loc]] w (Ext B Q tl il false w) := by
  have hX : X < w.heap.size := lt_of_cell h.x0
  have hP : P < w.heap.size := lt_of_cell h.p1
  have hQ : Q < w.heap.size := lt_of_cell h.q1
  have hX1 : X < w.heap.size + 1 := by omega
  have hX2 : X < w.heap.size + 1 + 1 := by omega
  have ti := ta_index ⟨X, 0, none⟩
  have tp := ta_priv ⟨Q, 0, none⟩
  have x2 := h.x2
  go_enter Try.func40, Try.ntmps40
  go_wp2_with fail
  generalize hW : ((w.alloc (.cells #[.iface 157 (.pointer (some ⟨X, 0, none⟩)), .int .i32 loc] 39)).alloc (.cells #[.nilIface, .int .i32 0] 39)).alloc (.cells #[.int .i32 0] 31) = W
  have hB : Below w.heap.size w W := by subst hW; exact (((Below.refl _ _).alloc (Nat.le_refl _) _).alloc (by simp) _).alloc (by simp; omega) _
  have hN : w.heap.size + 3 = W.heap.size := by subst hW; simp
  have k1 : W.cell? ⟨w.heap.size + 1, 0, none⟩ = some .nilIface ∧ W.frozen? ⟨w.heap.size + 1, 0, none⟩ = false := by subst hW; constructor <;> go_simp
  have k2 : W.cell? ⟨w.heap.size + 1, 1, none⟩ = some (.int .i32 0) ∧ W.frozen? ⟨w.heap.size + 1, 1, none⟩ = false := by subst hW; constructor <;> go_simp
  have k3 : W.cell? ⟨w.heap.size + 1 + 1, 0, none⟩ = some (.int .i32 0) ∧ W.frozen? ⟨w.heap.size + 1 + 1, 0, none⟩ = false := by subst hW; constructor <;> go_simp
  have hG := h.below hB
  clear hW h x2 ti tp
  refine (needs P Q S k false hk W hG.p1 hG.q1 hG.p2 hG.s1 hG.s2).mono ?_
  rintro e w1 ⟨rfl, B1⟩
  have h0 := (B1.cell (lt_of_cell hG.x0)).trans hG.x0
  have h1 := (B1.cell (lt_of_cell hG.x1)).trans hG.x1
  have h3 := (B1.cell (lt_of_cell hG.x3)).trans hG.x3
  have j1 := (B1.cell (lt_of_cell k1.1)).trans k1.1
  have j2 := (B1.cell (lt_of_cell k2.1)).trans k2.1
  have j3 := (B1.cell (lt_of_cell k3.1)).trans k3.1
  have l1 := (B1.frozen (p := ⟨w.heap.size + 1, 0, none⟩) (lt_of_cell k1.1)).trans k1.2
  have l2 := (B1.frozen (p := ⟨w.heap.size + 1, 1, none⟩) (lt_of_cell k2.1)).trans k2.2
  have l3 := (B1.frozen (p := ⟨w.heap.size + 1 + 1, 0, none⟩) (lt_of_cell k3.1)).trans k3.2
  have B2 := hB.trans (B1.mono hB.size)
  have n1 : ¬ (X = w.heap.size + 1) := by omega
  have n2 : ¬ (X = w.heap.size + 1 + 1) := by omega
  clear hG hB B1 k1 k2 k3 hN
  go_wp2_with fail
  refine bodyPost_ret (v := no) (by simp [results, Try.results40, go_sem, no, j1, j2, j3]) rfl ⟨rfl, ?_⟩
  exact (((B2.setCell (by show w.heap.size ≤ w.heap.size + 1; omega) _).setCell (by show w.heap.size ≤ w.heap.size + 1; omega) _).setCell (by show w.heap.size ≤ w.heap.size + 1 + 1; omega) _)
theorem extract (P Q S X B : Nat) (k tl il loc : Int) (m : Bool) (hk : Kinds k) (w : World) (h : Given w P Q S X B k tl il m) :
    Calls Try.prog 40 #[.pointer (some ⟨P, 0, none⟩), .agg #[.iface 157 (.pointer (some ⟨X, 0, none⟩)), .int .i32 loc]] w (Ext B Q tl il m w) := by
  cases m
  · exact extract_no P Q S X B k tl il loc hk w h
  · exact extract_yes P Q S X B k tl il loc hk w h
set_option maxHeartbeats 1000000 in
theorem zzExtract (P Q S X B : Nat) (k tl il loc : Int) (m : Bool) (hk : Kinds k) (w : World) (h : Given w P Q S X B k tl il m) :
    Calls Try.prog 16 #[.pointer (some ⟨P, 0, none⟩), .agg #[.iface 157 (.pointer (some ⟨X, 0, none⟩)), .int .i32 loc]] w (Ext B Q tl il m w) := by
  go_enter Try.func16, Try.ntmps16
  go_wp2_with fail
  go_at_call 40
  generalize hW : ((w.alloc (.cells #[.iface 157 (.pointer (some ⟨X, 0, none⟩)), .int .i32 loc] 39)).alloc (.cells #[.nilIface, .int .i32 0] 39)).alloc (.cells #[.int .i32 0] 31) = W
  have hB : Below w.heap.size w W := by subst hW; exact (((Below.refl _ _).alloc (Nat.le_refl _) _).alloc (by simp) _).alloc (by simp; omega) _
  have hN : w.heap.size + 3 = W.heap.size := by subst hW; simp
  have k1 : W.cell? ⟨w.heap.size + 1, 0, none⟩ = some .nilIface ∧ W.frozen? ⟨w.heap.size + 1, 0, none⟩ = false := by subst hW; constructor <;> go_simp
  have k2 : W.cell? ⟨w.heap.size + 1, 1, none⟩ = some (.int .i32 0) ∧ W.frozen? ⟨w.heap.size + 1, 1, none⟩ = false := by subst hW; constructor <;> go_simp
  have k3 : W.cell? ⟨w.heap.size + 1 + 1, 0, none⟩ = some (.int .i32 0) ∧ W.frozen? ⟨w.heap.size + 1 + 1, 0, none⟩ = false := by subst hW; constructor <;> go_simp
  clear hW
  refine (extract P Q S X B k tl il loc m hk W (h.below hB)).mono ?_
  rintro e w1 ⟨rfl, B1⟩
  have j1 := (B1.cell (lt_of_cell k1.1)).trans k1.1
  have j2 := (B1.cell (lt_of_cell k2.1)).trans k2.1
  have j3 := (B1.cell (lt_of_cell k3.1)).trans k3.1
  have l1 := (B1.frozen (p := ⟨w.heap.size + 1, 0, none⟩) (lt_of_cell k1.1)).trans k1.2
  have l2 := (B1.frozen (p := ⟨w.heap.size + 1, 1, none⟩) (lt_of_cell k2.1)).trans k2.2
  have l3 := (B1.frozen (p := ⟨w.heap.size + 1 + 1, 0, none⟩) (lt_of_cell k3.1)).trans k3.2
  have B2 := hB.trans (B1.mono hB.size)
  clear h hB B1 k1 k2 k3 hN
  cases m
  · unfold no
    simp only [cond_false]
    go_wp2_with fail
    refine bodyPost_ret (v := no) (by simp [results, Try.results16, go_sem, no, j1, j2, j3]) rfl ⟨rfl, ?_⟩
    exact (((B2.setCell (by show w.heap.size ≤ w.heap.size + 1; omega) _).setCell (by show w.heap.size ≤ w.heap.size + 1; omega) _).setCell (by show w.heap.size ≤ w.heap.size + 1 + 1; omega) _)
  · unfold yes
    simp only [cond_true]
    go_wp2_with fail
    refine bodyPost_ret (v := yes B Q tl il) (by simp [results, Try.results16, go_sem, yes, j1, j2, j3]) rfl ⟨rfl, ?_⟩
    exact (((B2.setCell (by show w.heap.size ≤ w.heap.size + 1; omega) _).setCell (by show w.heap.size ≤ w.heap.size + 1; omega) _).setCell (by show w.heap.size ≤ w.heap.size + 1 + 1; omega) _)
end Go.Proofs.Ytihpdmoonddjmaa.Priv
