/-
  The walk of FnFromConfigEachBoolDistinguishes: it returns true for every config. No condition.
-/
import Derived.Test.YtimmcjjkfhambaaCfgC
import Derived.IntWalk
namespace Go.Proofs.Ytimmcjjkfhambaa.fnFromConfigEachBoolDistinguishes
open Go.RowKit Go.ChangeShapes Go.WideShapes Go.ChangeAt Go.Proofs.Ytimmcjjkfhambaa.Ints Go.Proofs.Ytimmcjjkfhambaa.Cfg

theorem wf_u8 {a : Int} (h : (Lit.int .u8 a).wf = true) : 0 ≤ a ∧ a < 256 := by
  simp only [Lit.wf, IntKind.min, IntKind.max, IntKind.signed, IntKind.bits] at h
  simp at h
  omega
theorem wf_u16 {a : Int} (h : (Lit.int .u16 a).wf = true) : 0 ≤ a ∧ a < 65536 := by
  simp only [Lit.wf, IntKind.min, IntKind.max, IntKind.signed, IntKind.bits] at h
  simp at h
  omega
set_option maxRecDepth 100000 in
theorem openC {H : Type} {enc : TypeId × Value → H} {W : World} {base : Nat} {v : Value} {d : DataW H} {p : List MemPlace} (k0 : Value.okWide Try.prog W .any base 26 v) (h : DataW.Trod enc Try.prog W 0 (fun _ => true) true 26 v d p) :
    ∃ (b : Int) (env : ByteArray) (fe ov ms : Int) (mn rn : Bool) (o : Option Addr) (n c : Nat) (f : Nat → ByteArray), v = .agg #[.int .u16 b, .string env, .int .u64 fe, .int .u64 ov, .int .u64 ms, .bool mn, .bool rn, .slice o n c] ∧
      0 ≤ b ∧ b < 65536 ∧ env.size ≤ maxLen ∧ n ≤ c ∧ c ≤ maxLen ∧ StrsAt W o n f ∧ (∀ i, i < n → (f i).size ≤ maxLen) ∧ (o = none → n = 0 ∧ c = 0) := by
  obtain ⟨cs, rfl, hsz⟩ := okWide_struct Try.underlying26 k0
  obtain ⟨c0, c1, c2, c3, c4, c5, c6, c7, rfl⟩ := array8 (hsz.trans (by kernel_rfl))
  obtain ⟨fuel, hf⟩ := h
  obtain ⟨xs, k, _, _, _, hl, hg⟩ := DataW.trod_struct Try.underlying26 hf
  have e16 : Try.prog.cellsOf 22 = 1 := by kernel_rfl
  have eS : Try.prog.cellsOf 9 = 1 := by kernel_rfl
  have e64 : Try.prog.cellsOf 23 = 1 := by kernel_rfl
  have eB : Try.prog.cellsOf 4 = 1 := by kernel_rfl
  have eL : Try.prog.cellsOf 24 = 1 := by kernel_rfl
  match xs, hl with
  | [x0, x1, x2, x3, x4, x5, x6, x7], _ =>
    have h0 : DataW.trod enc Try.prog W 0 (fun _ => true) true k 22 (([c0, c1, c2, c3, c4, c5, c6, c7].drop 0).take (Try.prog.cellsOf 22)) = some x0 := hg 0 _ rfl
    have h1 : DataW.trod enc Try.prog W 0 (fun _ => true) true k 9 (([c0, c1, c2, c3, c4, c5, c6, c7].drop 1).take (Try.prog.cellsOf 9)) = some x1 := hg 1 _ rfl
    have h2 : DataW.trod enc Try.prog W 0 (fun _ => true) true k 23 (([c0, c1, c2, c3, c4, c5, c6, c7].drop 2).take (Try.prog.cellsOf 23)) = some x2 := hg 2 _ rfl
    have h3 : DataW.trod enc Try.prog W 0 (fun _ => true) true k 23 (([c0, c1, c2, c3, c4, c5, c6, c7].drop 3).take (Try.prog.cellsOf 23)) = some x3 := hg 3 _ rfl
    have h4 : DataW.trod enc Try.prog W 0 (fun _ => true) true k 23 (([c0, c1, c2, c3, c4, c5, c6, c7].drop 4).take (Try.prog.cellsOf 23)) = some x4 := hg 4 _ rfl
    have h5 : DataW.trod enc Try.prog W 0 (fun _ => true) true k 4 (([c0, c1, c2, c3, c4, c5, c6, c7].drop 5).take (Try.prog.cellsOf 4)) = some x5 := hg 5 _ rfl
    have h6 : DataW.trod enc Try.prog W 0 (fun _ => true) true k 4 (([c0, c1, c2, c3, c4, c5, c6, c7].drop 6).take (Try.prog.cellsOf 4)) = some x6 := hg 6 _ rfl
    have h7 : DataW.trod enc Try.prog W 0 (fun _ => true) true k 24 (([c0, c1, c2, c3, c4, c5, c6, c7].drop 7).take (Try.prog.cellsOf 24)) = some x7 := hg 7 _ rfl
    rw [e16] at h0
    rw [eS] at h1
    rw [e64] at h2 h3 h4
    rw [eB] at h5 h6
    rw [eL] at h7
    obtain ⟨b, hb, _, wb⟩ := DataW.trod_int Try.underlying22 h0
    obtain ⟨env, he, _, we⟩ := DataW.trod_string Try.underlying9 h1
    obtain ⟨fe, h2', _, _⟩ := DataW.trod_int Try.underlying23 h2
    obtain ⟨ov, h3', _, _⟩ := DataW.trod_int Try.underlying23 h3
    obtain ⟨ms, h4', _, _⟩ := DataW.trod_int Try.underlying23 h4
    obtain ⟨mn, h5', _⟩ := DataW.trod_bool Try.underlying4 h5
    obtain ⟨rn, h6', _⟩ := DataW.trod_bool Try.underlying4 h6
    obtain ⟨o, n, c, f, h7', q1, q2, q3, q4, q5⟩ := openStrs Try.underlying24 Try.underlying9 (by kernel_rfl) h7
    obtain rfl : c0 = .int .u16 b := by simpa using hb
    obtain rfl : c1 = .string env := by simpa using he
    obtain rfl : c2 = .int .u64 fe := by simpa using h2'
    obtain rfl : c3 = .int .u64 ov := by simpa using h3'
    obtain rfl : c4 = .int .u64 ms := by simpa using h4'
    obtain rfl : c5 = .bool mn := by simpa using h5'
    obtain rfl : c6 = .bool rn := by simpa using h6'
    subst h7'
    exact ⟨b, env, fe, ov, ms, mn, rn, o, n, c, f, rfl, (wf_u16 wb).1, (wf_u16 wb).2, we, q1, q2, q3, q4, q5⟩
set_option maxRecDepth 100000 in
theorem walk (W : World) {H : Type} {enc : TypeId × Value → H} {base : Nat} {p0 : List MemPlace} (v0 : Value) (d0 : DataW H) (k0 : Value.okWide Try.prog W .any base 26 v0) (h0 : DataW.Trod enc Try.prog W 0 (fun _ => true) true 26 v0 d0 p0)
    (a1 : Int) (w1 : (Lit.int .u8 a1).wf = true) : Calls Try.prog 3 #[v0, .int .u8 a1] W fun e w' => e = .returned (.bool true) ∧ Below W.heap.size W w' := by
  obtain ⟨b, env, fe, ov, ms, mn, rn, o, n, c, f, rfl, g1, g2, g3, g4, g5, g6, g7, g8⟩ := openC k0 h0
  exact main b env fe ov ms mn rn o n c f a1 W g1 g2 g3 (Nat.le_trans g4 g5) g6 g7 g8 (wf_u8 w1).1 (wf_u8 w1).2
end Go.Proofs.Ytimmcjjkfhambaa.fnFromConfigEachBoolDistinguishes
