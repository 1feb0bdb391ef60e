/-
  The parts of the main walk of FnFromConfigEachBoolDistinguishes: a call's result that is stored into a new variable. No condition.
-/
import Derived.Test.YtimmcjjkfhambaaCfgA
import Derived.Test.YtimmcjjkfhambaaCfg4
namespace Go.Proofs.Ytimmcjjkfhambaa.Cfg
open Go.RowKit Go.ChangeShapes Go.WideShapes Go.ChangeAt Go.Proofs.Ytimmcjjkfhambaa.Ints
/-- What is said of blocks from B on, and stays. -/
structure Kp (Φ : Nat → World → Array Value → Prop) : Prop where
  keep : ∀ {B w w' r}, Φ B w r → w.heap.size ≤ w'.heap.size → (∀ b, B ≤ b → b < w.heap.size → w'.heap[b]? = w.heap[b]?) → Φ B w' r
  mono : ∀ {B B' w r}, Φ B w r → B' ≤ B → Φ B' w r
def Res (k : Nat) (Φ : Nat → World → Array Value → Prop) (w : World) (e : Ending) (w' : World) : Prop :=
  ∃ r : Array Value, e = .returned (.agg r) ∧ r.size = k ∧ r.all (·.oneCell') = true ∧ Φ w.heap.size w' r ∧ Below w.heap.size w w'
def MadeG (T : TypeId) (Φ : Nat → World → Array Value → Prop) (W1 : World) (c : Value) (wx : World) : Prop :=
  ∃ A r, c = .pointer (some ⟨A, 0, none⟩) ∧ W1.heap.size ≤ A ∧ Below W1.heap.size W1 wx ∧ wx.heap[A]? = some (.cells r T (0, 0)) ∧ Φ W1.heap.size wx r
theorem made_cf {T : TypeId} {Φ : Nat → World → Array Value → Prop} (hk : Kp Φ) {W1 w4 w5 : World} {z r : Array Value} (b4 : Below W1.heap.size W1 w4) (h : Φ W1.heap.size w4 r) (hC : w5.heap[w4.heap.size]? = some (.cells z T (0, 0)))
    (b5 : Below W1.heap.size W1 w5) (hs : w5.heap.size = w4.heap.size + 1) (hk5 : ∀ k, k < w4.heap.size → w5.heap[k]? = w4.heap[k]?) : MadeG T Φ W1 (.pointer (some ⟨w4.heap.size, 0, none⟩)) (w5.setRow w4.heap.size r) :=
  ⟨_, r, rfl, b4.size, below_setRow b5 b4.size _, setRow_at hC _, hk.keep h (by rw [setRow_size]; omega) (fun k _ hk => (setRow_ne (by omega) _).trans (hk5 k hk))⟩
theorem made_af {T : TypeId} {Φ : Nat → World → Array Value → Prop} (hk : Kp Φ) {W1 w5 w4 : World} {z r : Array Value} (b4 : Below W1.heap.size W1 w4) (hs : w5.heap.size = W1.heap.size + 1) (h : Φ w5.heap.size w4 r) (hC : w4.heap[W1.heap.size]? = some (.cells z T (0, 0))) :
    MadeG T Φ W1 (.pointer (some ⟨W1.heap.size, 0, none⟩)) (w4.setRow W1.heap.size r) :=
  ⟨_, r, rfl, Nat.le_refl _, below_setRow b4 (Nat.le_refl _) _, setRow_at hC _, hk.mono (hk.keep h (by rw [setRow_size]; exact Nat.le_refl _) (fun k hk _ => setRow_ne (by omega) _)) (by omega)⟩
theorem Lab.mono {B B' n : Nat} {w : World} {o : Option Addr} {f : Nat → ByteArray} (h : Lab B w o n f) (hb : B' ≤ B) : Lab B' w o n f := ⟨h.at_, h.nil, fun b off e => Nat.le_trans hb (h.ge b off e)⟩
theorem Rgx.mono {B B' : Nat} {w : World} {b : Bool} {m : Option Addr} (h : Rgx B w b m) (hb : B' ≤ B) : Rgx B' w b m := by
  rcases h with h | ⟨h1, M, h2, h3, h4⟩
  · exact .inl h
  · exact .inr ⟨h1, M, h2, Nat.le_trans hb h3, h4⟩
def PC (b : Int) (env : ByteArray) (fe ov ms : Int) (mn rn : Bool) (n : Nat) (f : Nat → ByteArray) (B : Nat) (w : World) (r : Array Value) : Prop := ∃ o, r = cfgP b env fe ov ms mn rn o n n ∧ Lab B w o n f
def PB (x : Nat → Bool) (env : ByteArray) (fe ov ms : Int) (mn rn : Bool) (n : Nat) (f : Nat → ByteArray) (B : Nat) (w : World) (r : Array Value) : Prop := ∃ m q o, r = optV x env fe ov ms m q o n ∧ Rgx B w mn m ∧ Rgx B w rn q ∧ Lab B w o n f
theorem kpC (b : Int) (env : ByteArray) (fe ov ms : Int) (mn rn : Bool) (n : Nat) (f : Nat → ByteArray) : Kp (PC b env fe ov ms mn rn n f) :=
  ⟨fun ⟨o, h, l⟩ hs hk => ⟨o, h, l.keep hs hk⟩, fun ⟨o, h, l⟩ hb => ⟨o, h, l.mono hb⟩⟩
theorem kpB (x : Nat → Bool) (env : ByteArray) (fe ov ms : Int) (mn rn : Bool) (n : Nat) (f : Nat → ByteArray) : Kp (PB x env fe ov ms mn rn n f) :=
  ⟨fun ⟨m, q, o, h, a, c, l⟩ hs hk => ⟨m, q, o, h, a.of (fun M h1 h2 _ => hk M h1 h2), c.of (fun M h1 h2 _ => hk M h1 h2), l.keep hs hk⟩, fun ⟨m, q, o, h, a, c, l⟩ hb => ⟨m, q, o, h, a.mono hb, c.mono hb, l.mono hb⟩⟩
theorem cloneR (b : Int) (env : ByteArray) (fe ov ms : Int) (mn rn : Bool) (o : Option Addr) (n cap : Nat) (f : Nat → ByteArray) (w : World) (hn : n ≤ 65536) (hI : StrsAt w o n f) (h0 : o = none → n = 0 ∧ cap = 0) :
    Calls Try.prog 6 #[.agg (cfgP b env fe ov ms mn rn o n cap)] w (Res 8 (PC b env fe ov ms mn rn n f) w) := by
  refine (cloneC b env fe ov ms mn rn o n cap f w hn hI h0).mono ?_
  rintro e w' ⟨o2, rfl, L, bl⟩
  exact ⟨_, rfl, rfl, by kernel_rfl, ⟨o2, rfl, L⟩, bl⟩
theorem buildR (b : Int) (env : ByteArray) (fe ov ms : Int) (mn rn : Bool) (o : Option Addr) (n c : Nat) (f : Nat → ByteArray) (w : World) (h0 : 0 ≤ b) (h1 : b < 65536) (hn : n ≤ 65536) (hI : StrsAt w o n f) (hz : o = none → n = 0 ∧ c = 0) :
    Calls Try.prog 7 #[.agg (cfgP b env fe ov ms mn rn o n c)] w (Res (optZ.size) (PB (bt b) env fe ov ms mn rn n f) w) := by
  refine (build1 b env fe ov ms mn rn o n c f w h0 h1 hn hI hz).mono ?_
  rintro e w' ⟨m, q, o2, rfl, R1, R2, L, bl⟩
  exact ⟨_, rfl, rfl, by kernel_rfl, ⟨m, q, o2, rfl, R1, R2, L⟩, bl⟩
theorem flipI (b : Int) (h0 : 0 ≤ b) (h1 : b < 65536) (j : Nat) (hj : j < 11) : ∃ b' : Int, bits .xor .u16 b ((2 ^ j : Nat) : Int) = b' ∧ 0 ≤ b' ∧ b' < 65536 ∧ sameF (bt b) (bt b') = false ∧ sameF (bt b') (bt b) = false := by
  obtain ⟨m, rfl⟩ := Int.eq_ofNat_of_zero_le h0
  obtain ⟨m', e, h2, h3, h4⟩ := flip m j (by omega) hj
  exact ⟨_, e, by omega, by omega, h3, h4⟩
theorem load_want {P : Program} {ops : Array Oper} {rest : List Oper} {o : Oper} {a : Act} {w : World} {Q : Exit → Act → World → Prop} (hw : Region.wanted o (yielded ops a.tmps) = true) (ty : TypeId) (x : Operand) (ho : o.op = .load ty x)
    (g : Nat) (hx : a.eval x = .pointer (some ⟨g, 0, none⟩)) (t : TypeId) (cs : Array Value) (fr : Nat × Nat) (d : TypeDesc) (hg : w.heap[g]? = some (.cells cs t fr))
    (hu : P.underlying ty = some d) (hd : (match d with | .struct _ | .array _ _ => true | _ => false) = true) (hi : (P.info? ty).map (·.size) = some cs.size)
    (h : wpList P ops Q rest (a.put o.dst (.agg cs)) w) : wpList P ops Q (o :: rest) a w :=
  BigFrame.wpList_want hw fun _ hK => wp_load_row ty x ho g hx t cs fr d hg hu hd hi (hK _ _ h)
theorem made {T : TypeId} {Φ : Nat → World → Array Value → Prop} (hk : Kp Φ) {W1 w4 w5 : World} {z r : Array Value} (b4 : Below W1.heap.size W1 w4) (h : Φ W1.heap.size w4 r) (hC : w5.heap[w4.heap.size]? = some (.cells z T (0, 0)))
    (b5 : Below W1.heap.size W1 w5) (hs : w5.heap.size = w4.heap.size + 1) (hk5 : ∀ k, k < w4.heap.size → w5.heap[k]? = w4.heap[k]?) : W1.heap.size ≤ w4.heap.size ∧ Below W1.heap.size W1 (w5.setRow w4.heap.size r) ∧ (w5.setRow w4.heap.size r).heap[w4.heap.size]? = some (.cells r T (0, 0)) ∧
      ∀ w', (w5.setRow w4.heap.size r).heap.size ≤ w'.heap.size → (∀ k, k < w4.heap.size → w'.heap[k]? = (w5.setRow w4.heap.size r).heap[k]?) → Φ W1.heap.size w' r :=
  ⟨b4.size, below_setRow b5 b4.size _, setRow_at hC _, fun w' h1 h2 => hk.keep h (by rw [setRow_size] at h1; omega) (fun k _ hk => (h2 k hk).trans ((setRow_ne (by omega) _).trans (hk5 k hk)))⟩
theorem array8 {α : Type} {cs : Array α} (h : cs.size = 8) : ∃ c0 c1 c2 c3 c4 c5 c6 c7, cs = #[c0, c1, c2, c3, c4, c5, c6, c7] := by
  obtain ⟨l⟩ := cs
  match l, h with
  | [c0, c1, c2, c3, c4, c5, c6, c7], _ => exact ⟨c0, c1, c2, c3, c4, c5, c6, c7, rfl⟩
end Go.Proofs.Ytimmcjjkfhambaa.Cfg
