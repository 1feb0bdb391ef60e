/-
  logExprErrors: one located error for each range that has a length. Condition: at most 2^20 bytes, ranges within the text, every feature supported, utf8's two tables laid.
-/
import Derived.Test.YtcijcifhdakhoaaFmtEx2
import Derived.Stop.AnyFormat
import GoSem.ClaimData
import Derived.WalkSpells
namespace Go.Proofs.YtcijcifhdakhoaaFmt.Ex
open Go.RowKit Go.Lib Go.Proofs.YtcijcifhdakhoaaFmt.Ints Go.Proofs.YtcijcifhdakhoaaFmt.Lg Go.Proofs.YtcijcifhdakhoaaFmt.U8
open Go.Extern.Stop Go.Stop Go.Extern

/-- The messages: located errors of these lengths. -/
def Msgs (w : World) : List Nat → List Value → Prop
  | [], xs => xs = []
  | k :: ks, xs => ∃ q x ys, xs = mcells none 0 0 (some ⟨q, 0, none⟩) x 0 0 ++ ys ∧ IsLoc q k w ∧ Msgs w ks ys
theorem Msgs.mono {w w1 : World} (hk : ∀ q k, IsLoc q k w → IsLoc q k w1) : ∀ {l : List Nat} {xs : List Value}, Msgs w l xs → Msgs w1 l xs
  | [], _, h => h
  | _ :: _, _, ⟨q, x, ys, e, h1, h2⟩ => ⟨q, x, ys, e, hk _ _ h1, Msgs.mono hk h2⟩
theorem Msgs.snoc {w : World} {q k : Nat} {x : ByteArray} (hq : IsLoc q k w) : ∀ {l : List Nat} {xs : List Value}, Msgs w l xs → Msgs w (l ++ [k]) (xs ++ mcells none 0 0 (some ⟨q, 0, none⟩) x 0 0)
  | [], xs, h => by
    have h : xs = [] := h
    subst h
    exact ⟨q, x, [], by simp, hq, rfl⟩
  | _ :: _, _, ⟨q', x', ys, e, h1, h2⟩ => ⟨q', x', ys ++ mcells none 0 0 (some ⟨q, 0, none⟩) x 0 0, by rw [e, List.append_assoc], h1, Msgs.snoc hq h2⟩
/-- The deferred errors at block E. -/
def ErrB (E : Nat) (d0 d1 a0 a1 s0 s1 : Int) (w : World) : Prop := w.heap[E]? = some (.cells #[.int .i32 d0, .int .i32 d1, .int .i32 a0, .int .i32 a1, .int .i32 s0, .int .i32 s1, .slice none 0 0] 167 (0, 0))
def Fits (s : ByteArray) (a b : Int) : Prop := 0 < b → 0 ≤ a ∧ a + b ≤ (s.size : Int)
def lenOf (b : Int) : List Nat := if 0 < b then [b.toNat] else []
/-- Between the three tests. -/
structure LS (B P K M H G E : Nat) (F0 : Nat → Value) (s : ByteArray) (l : List Nat) (d0 d1 a0 a1 s0 s1 : Int) (st : Bool) (w0 w : World) : Prop where
  ex : ∃ (v : Value) (xs : List Value) (e : Bool) (o ls le : Nat) (ln : Int) (he : Bool), Lg B K M H G e l.length v xs w ∧ Msgs w l xs ∧ Tk P F0 s o ls le ln true he w ∧ (st = true → St s o ls le he)
  err : ErrB E d0 d1 a0 a1 s0 s1 w
  bel : Below B w0 w
section
variable {B P K M H G E : Nat} {F0 : Nat → Value} {s : ByteArray} {l : List Nat} {d0 d1 a0 a1 s0 s1 : Int} {st : Bool} {w0 w w1 : World}
theorem LS.below (h : LS B P K M H G E F0 s l d0 d1 a0 a1 s0 s1 st w0 w) (hb : Below w.heap.size w w1) (hB : B ≤ w.heap.size) : LS B P K M H G E F0 s l d0 d1 a0 a1 s0 s1 st w0 w1 := by
  obtain ⟨v, xs, e, o, ls, le, ln, he, g1, g2, g3, g4⟩ := h.ex
  exact ⟨⟨v, xs, e, o, ls, le, ln, he, g1.below hb, g2.mono (fun q k hq => hq.below hb), g3.of (hb.block _ g3.lt), g4⟩, (hb.block _ (lt_of_blk h.err)).trans h.err, h.bel.trans (hb.mono hB)⟩
end
/-- What AddError's answer does to the state. -/
theorem LS.more {B P K M H G E n : Nat} {F0 : Nat → Value} {s x : ByteArray} {l : List Nat} {d0 d1 a0 a1 s0 s1 : Int} {v : Value} {xs : List Value} {e : Bool} {o ls le t k : Nat} {ln : Int} {he : Bool} {w0 w w2 : World} {y : Ending}
    (hL : Lg B K M H G e n v xs w) (hn : n = l.length) (hM : Msgs w l xs) (hT : Tk P F0 s o ls le ln true he w) (hE : ErrB E d0 d1 a0 a1 s0 s1 w) (hb : Below B w0 w) (h : MoreL B P K M H G n v xs F0 s x o t k w y w2) (stb : Bool) (hst : stb = true → o ≤ t) :
    y = .returned (.tuple #[]) ∧ LS B P K M H G E F0 s (l ++ [k]) d0 d1 a0 a1 s0 s1 stb w0 w2 := by
  obtain ⟨v', q, rfl, h2, hq, hqw, ⟨o2, ls2, le2, ln2, g1, g3⟩, hB2, hk⟩ := h
  obtain ⟨cP, fP, bP⟩ := hT.blk
  have keep : ∀ {b : Nat} {c : Array Value} {t : TypeId} {f : Nat × Nat}, w.heap[b]? = some (.cells c t f) → t ≠ 165 → t ≠ 4 → t ≠ 179 → t ≠ 175 → w2.heap[b]? = some (.cells c t f) := fun hb t1 t2 t3 t4 =>
    (hk _ (lt_of_blk hb) (ne_of_ty hb bP t1) (ne_of_ty hb hL.bH t2) (ne_of_ty hb hL.bG t3) (own_ty hL.own hb t4)).trans hb
  have hm : Msgs w2 (l ++ [k]) (xs ++ mcells none 0 0 (some ⟨q, 0, none⟩) x 0 0) := by
    refine Msgs.snoc hq (Msgs.mono (w := w) (fun q' k' h' => ?_) hM)
    obtain ⟨x', a', c', hq'⟩ := h'
    exact ⟨x', a', c', keep hq' (by decide) (by decide) (by decide) (by decide)⟩
  have h3 : Lg B K M H G true (l ++ [k]).length v' (xs ++ mcells none 0 0 (some ⟨q, 0, none⟩) x 0 0) w2 := by
    rw [List.length_append, ← hn]
    exact h2
  exact ⟨rfl, ⟨v', xs ++ mcells none 0 0 (some ⟨q, 0, none⟩) x 0 0, true, o2, ls2, le2, ln2, true, h3, hm, g1, fun e => g3 (hst e)⟩, keep hE (by decide) (by decide) (by decide) (by decide), hb.trans hB2⟩
theorem callS (args : Array Value) (w : World) : (callFunc 24 args).run Tryf.prog w = ((FmtStop.sprintf #[9, 334] #[9] args).run Tryf.prog w).andThen fun v w' => .ok (.value v) w' :=
  run_callFunc_extern Tryf.func24 (by kernel_rfl) (by kernel_rfl) (by kernel_rfl) (by kernel_rfl) args w
theorem guardS (name : String) (w : World) : (FmtStop.guard name).run Tryf.prog w = .ok () w := by kernel_rfl
def fm3 : ByteArray := ⟨#[85, 110, 101, 120, 112, 101, 99, 116, 101, 100, 32, 37, 113]⟩
theorem pr3 : FmtStop.printed? fm3 1 = some [(0, 113, false)] := by kernel_rfl
def shS : List UInt8 := [12, 6, 0, 0, 0, 0, 0, 0, 0, 115, 116, 114, 105, 110, 103]
theorem opQ (name : String) (x : ByteArray) (w : World) : (FmtStop.operand name false 113 false (.iface 9 (.string x))).run Tryf.prog w = .ok (shS, FmtStop.pack x.data.toList) w := by kernel_rfl
theorem spr3 {F : Interp} {w : World} (hF : F.answers w.tape) (b : Nat) (x : ByteArray) (h : w.cell? ⟨b, 0, none⟩ = some (.iface 9 (.string x))) :
    ∃ s : ByteArray, (callFunc 24 #[.string fm3, .slice (some ⟨b, 0, none⟩) 1 1]).run Tryf.prog w = .ok (.value (.string s)) w.drew := by
  have hc : (FmtStop.cells (.slice (some ⟨b, 0, none⟩) 1 1)).run Tryf.prog w = .ok [.iface 9 (.string x)] w := by simp [FmtStop.cells, go_sem, h]
  have ho : (FmtStop.readAll "fmt.Sprintf" false [.iface 9 (.string x)] [(0, 113, false)]).run Tryf.prog w = .ok [(shS, FmtStop.pack x.data.toList)] w := by
    have e1 := opQ "fmt.Sprintf" x w
    simp [FmtStop.readAll, e1]
  have hp : FmtStop.printed? fm3 [Value.iface 9 (.string x)].length = some [(0, 113, false)] := pr3
  have e : ∃ s : ByteArray, (FmtStop.sprintf #[9, 334] #[9] #[.string fm3, .slice (some ⟨b, 0, none⟩) 1 1]).run Tryf.prog w = .ok (.string s) w.drew := by
    rw [FmtStop.sprintf_lit]
    simp only [Sem.run_bind, guardS, Result.andThen_ok, hc, hp, ho]
    exact ⟨_, FmtStop.run_text F _ _ _ w hF⟩
  obtain ⟨s, hs⟩ := e
  exact ⟨s, by rw [callS, hs]; rfl⟩
theorem hasE (a b : Int) (w : World) : Calls Tryf.prog 30 #[.int .u64 a, .int .u64 b] w fun e w' => e = .returned (.bool (bits .and .u64 a b != 0)) ∧ w = w' := by
  go_enter Tryf.func30, Tryf.ntmps30
  go_wp2
  go_ret
  exact ⟨rfl, rfl⟩
def Says2 (x : Value) (w : World) (e : Ending) (w' : World) : Prop := e = .returned x ∧ Below w.heap.size w w'
set_option maxRecDepth 100000 in
theorem mark (P : Nat) (r0 r1 : Int) (w : World) (h : w.cell? ⟨P, 23, none⟩ = some (.int .u64 0)) : Calls Tryf.prog 25 #[pt P, .int .u64 2, .agg #[.int .i32 r0, .int .i32 r1]] w (Says2 (.bool false) w) := by
  have lP := lt_of_cell h
  have lP : P < w.heap.size := lP
  have e0 : (bits .and .u64 0 2 != 0) = false := by decide
  unfold pt
  go_enter Tryf.func25, Tryf.ntmps25
  go_wp2_with (go_at_call 30; refine (hasE _ _ _).mono ?_; rintro y w' ⟨rfl, rfl⟩; rw [e0])
  go_ret
  exact ⟨rfl, (Below.refl _ _).alloc (Nat.le_refl _) _⟩
end Go.Proofs.YtcijcifhdakhoaaFmt.Ex
