/-
  The walk of FnStringArrayArraysEqualMatchesNestedEncoding: it returns true for every two lists of string lists. No condition.
-/
import Derived.Test.YtolfajalkbnnoaaEnc2
import Derived.Deep.LoopGhost
namespace Go.Proofs.Ytolfajalkbnnoaa.fnStringArrayArraysEqualMatchesNestedEncoding
open Go.RowKit Go.WideShapes Go.ChangeAt Go.ChangeShapes Go.Proofs.Ytolfajalkbnnoaa.Ints Go.Proofs.Ytolfajalkbnnoaa.Join Go.Proofs.Ytolfajalkbnnoaa.Enc

def SomeBool (w : World) (e : Ending) (w' : World) : Prop := ∃ r : Bool, e = .returned (.bool r) ∧ w = w'
set_option maxRecDepth 100000 in
set_option maxHeartbeats 2000000 in
theorem bytes (o o2 : Option Addr) (n m cap cap2 : Nat) (A B : Nat → Option Addr) (L C K D : Nat → Nat) (F G : Nat → Nat → ByteArray) (w : World) (hI : HeadsAt w o n A L C) (hJ : HeadsAt w o2 m B K D) (hR : ∀ r, r < n → StrRow w (A r) (L r) (C r) (F r)) (hS : ∀ r, r < m → StrRow w (B r) (K r) (D r) (G r)) (hn0 : n ≤ maxLen) (hm0 : m ≤ maxLen) :
    Calls Try.prog 20 #[.slice o n cap, .slice o2 m cap2] w (SomeBool w) := by
  have hm1 : maxLen = 9223372036854775807 := rfl
  rw [hm1] at hn0 hm0
  replace hR := Lib.hid hR
  replace hS := Lib.hid hS
  by_cases hn : 1048576 < n
  · go_enter Try.func20, Try.ntmps20
    go_wp2_with fail
    go_ret
    exact ⟨_, rfl, rfl⟩
  go_enter Try.func20, Try.ntmps20
  go_wp2_with fail
  go_loopg [5, 6] n (fun gk t i wr => w = wr ∧ ∃ r T : Nat, r ≤ n ∧ gk = n - r ∧ i = .int .i64 r ∧ t = .int .i64 T ∧ T ≤ 1048576)
  case atStart => exact ⟨rfl, 0, n, Nat.zero_le _, rfl, rfl, rfl, by omega⟩
  case round =>
    obtain ⟨rfl, r, T, hr, rfl, rfl, rfl, hTl⟩ := hrel
    rcases Nat.lt_or_ge r n with hlt | hge
    · have hA := hI
      rcases hA with h0 | ⟨b, off, rfl, _, hc⟩
      · omega
      have g1 := hc r hlt
      have hrow := hR.out r hlt
      have hle := hrow.le
      rw [hm1] at hle
      clear hc
      generalize hl : L r = l at *
      replace hl := Lib.hid hl
      by_cases h1 : 1048576 < l
      · go_wp2_with fail
        go_ret
        exact ⟨_, rfl, rfl⟩
      have j1 : IntKind.i64.wrap ((T : Int) + (l : Int)) = (T : Int) + (l : Int) := by simp [IntKind.wrap, IntKind.bits, IntKind.signed]; omega
      by_cases h2 : (1048576 : Int) < (T : Int) + (l : Int)
      · go_wp2_with fail
        go_ret
        exact ⟨_, rfl, rfl⟩
      go_wp2_with fail
      clear j1
      go_loopg [5, 7] l (fun gk t i wr => w = wr ∧ ∃ q U : Nat, q ≤ l ∧ gk = l - q ∧ i = .int .i64 q ∧ t = .int .i64 U ∧ U ≤ 1048576)
      case atStart => exact ⟨rfl, 0, T + l, Nat.zero_le _, rfl, rfl, by first | rfl | simp, by omega⟩
      case round =>
        obtain ⟨rfl, q, U, hq, rfl, rfl, rfl, hUl⟩ := hrel
        rcases Nat.lt_or_ge q l with hqt | hqe
        · have hstr := hrow.strs
          have hsz := hrow.sz q hqt
          rw [hm1] at hsz
          rcases hstr with h0 | ⟨b2, off2, he2, _, hc2⟩
          · omega
          rw [he2] at g1
          have g2 := hc2 q hqt
          clear hc2
          replace he2 := Lib.hid he2
          replace hrow := Lib.hid hrow
          generalize hx : (F r q).size = x at *
          by_cases h3 : 1048576 < x
          · go_wp2_with fail
            go_ret
            exact ⟨_, rfl, rfl⟩
          have j2 : IntKind.i64.wrap ((U : Int) + (x : Int)) = (U : Int) + (x : Int) := by simp [IntKind.wrap, IntKind.bits, IntKind.signed]; omega
          by_cases h4 : (1048576 : Int) < (U : Int) + (x : Int)
          · go_wp2_with fail
            go_ret
            exact ⟨_, rfl, rfl⟩
          go_wp2_with fail
          go_roundg (l - (q + 1))
          case measure => omega
          case rel => exact ⟨rfl, q + 1, U + x, by omega, rfl, rfl, by simp, by omega⟩
        · have hqn : l = q := by omega
          subst hqn
          go_wp2_with fail
          go_roundg (n - (r + 1))
          case measure => omega
          case rel => exact ⟨rfl, r + 1, U, by omega, rfl, rfl, rfl, hUl⟩
    · have hrn : n = r := by omega
      subst hrn
      by_cases h1 : 1048576 < m
      · go_wp2_with fail
        go_ret
        exact ⟨_, rfl, rfl⟩
      have j1 : IntKind.i64.wrap ((T : Int) + (m : Int)) = (T : Int) + (m : Int) := by simp [IntKind.wrap, IntKind.bits, IntKind.signed]; omega
      by_cases h2 : (1048576 : Int) < (T : Int) + (m : Int)
      · go_wp2_with fail
        go_ret
        exact ⟨_, rfl, rfl⟩
      go_wp2_with fail
      clear j1
      go_loopg [5, 8] m (fun gk t i wr => w = wr ∧ ∃ r T : Nat, r ≤ m ∧ gk = m - r ∧ i = .int .i64 r ∧ t = .int .i64 T ∧ T ≤ 1048576)
      case atStart => exact ⟨rfl, 0, T + m, Nat.zero_le _, rfl, rfl, by first | rfl | simp, by omega⟩
      case round =>
        obtain ⟨rfl, r, T, hr, rfl, rfl, rfl, hTl⟩ := hrel
        rcases Nat.lt_or_ge r m with hlt | hge
        · have hA := hJ
          rcases hA with h0 | ⟨b, off, rfl, _, hc⟩
          · omega
          have g1 := hc r hlt
          have hrow := hS.out r hlt
          have hle := hrow.le
          rw [hm1] at hle
          clear hc
          generalize hl : K r = l at *
          replace hl := Lib.hid hl
          by_cases h1 : 1048576 < l
          · go_wp2_with fail
            go_ret
            exact ⟨_, rfl, rfl⟩
          have j1 : IntKind.i64.wrap ((T : Int) + (l : Int)) = (T : Int) + (l : Int) := by simp [IntKind.wrap, IntKind.bits, IntKind.signed]; omega
          by_cases h2 : (1048576 : Int) < (T : Int) + (l : Int)
          · go_wp2_with fail
            go_ret
            exact ⟨_, rfl, rfl⟩
          go_wp2_with fail
          clear j1
          go_loopg [5, 9] l (fun gk t i wr => w = wr ∧ ∃ q U : Nat, q ≤ l ∧ gk = l - q ∧ i = .int .i64 q ∧ t = .int .i64 U ∧ U ≤ 1048576)
          case atStart => exact ⟨rfl, 0, T + l, Nat.zero_le _, rfl, rfl, by first | rfl | simp, by omega⟩
          case round =>
            obtain ⟨rfl, q, U, hq, rfl, rfl, rfl, hUl⟩ := hrel
            rcases Nat.lt_or_ge q l with hqt | hqe
            · have hstr := hrow.strs
              have hsz := hrow.sz q hqt
              rw [hm1] at hsz
              rcases hstr with h0 | ⟨b2, off2, he2, _, hc2⟩
              · omega
              rw [he2] at g1
              have g2 := hc2 q hqt
              clear hc2
              replace he2 := Lib.hid he2
              replace hrow := Lib.hid hrow
              generalize hx : (G r q).size = x at *
              by_cases h3 : 1048576 < x
              · go_wp2_with fail
                go_ret
                exact ⟨_, rfl, rfl⟩
              have j2 : IntKind.i64.wrap ((U : Int) + (x : Int)) = (U : Int) + (x : Int) := by simp [IntKind.wrap, IntKind.bits, IntKind.signed]; omega
              by_cases h4 : (1048576 : Int) < (U : Int) + (x : Int)
              · go_wp2_with fail
                go_ret
                exact ⟨_, rfl, rfl⟩
              go_wp2_with fail
              go_roundg (l - (q + 1))
              case measure => omega
              case rel => exact ⟨rfl, q + 1, U + x, by omega, rfl, rfl, by simp, by omega⟩
            · have hqn : l = q := by omega
              subst hqn
              go_wp2_with fail
              go_roundg (m - (r + 1))
              case measure => omega
              case rel => exact ⟨rfl, r + 1, U, by omega, rfl, rfl, rfl, hUl⟩
        · have hrn : m = r := by omega
          subst hrn
          go_wp2_with fail
          go_ret
          exact ⟨_, rfl, rfl⟩
set_option maxRecDepth 100000 in
set_option maxHeartbeats 4000000 in
theorem main (o o2 : Option Addr) (n m cap cap2 : Nat) (A B : Nat → Option Addr) (L C K D : Nat → Nat) (F G : Nat → Nat → ByteArray) (w : World) (hI : HeadsAt w o n A L C) (hJ : HeadsAt w o2 m B K D) (hR : ∀ r, r < n → StrRow w (A r) (L r) (C r) (F r)) (hS : ∀ r, r < m → StrRow w (B r) (K r) (D r) (G r)) (hn0 : n ≤ maxLen) (hm0 : m ≤ maxLen)
    (z1 : o = none → n = 0 ∧ cap = 0) (z2 : o2 = none → m = 0 ∧ cap2 = 0) :
    Calls Try.prog 5 #[.slice o n cap, .slice o2 m cap2] w fun e w' => e = .returned (.bool true) ∧ Below w.heap.size w w' := by
  replace hR := Lib.hid hR
  replace hS := Lib.hid hS
  replace z1 := Lib.hid z1
  replace z2 := Lib.hid z2
  replace hn0 := Lib.hid hn0
  replace hm0 := Lib.hid hm0
  go_enter Try.func5, Try.ntmps5
  go_wp2_with fail
  go_at_call 20
  refine (bytes o o2 n m cap cap2 A B L C K D F G w hI hJ hR.out hS.out hn0.out hm0.out).mono ?_
  rintro e w' ⟨r, rfl, rfl⟩
  cases r with
  | false =>
    go_wp2_with fail
    go_ret
    exact ⟨rfl, Below.refl _ _⟩
  | true =>
    go_wp2_with fail
    go_at_call 21
    refine (size2 o n cap A L C F w hI hR.out hn0.out).mono ?_
    rintro e w' ⟨t1, rfl, rfl, ht1, hc1⟩
    replace hc1 := Lib.hid hc1
    go_wp2_with fail
    go_at_call 21
    refine (size2 o2 m cap2 B K D G w hJ hS.out hm0.out).mono ?_
    rintro e w' ⟨t2, rfl, rfl, ht2, hc2⟩
    replace hc2 := Lib.hid hc2
    by_cases hbig : (1048576 : Int) < (t1 : Int) + (t2 : Int)
    · go_wp2_with fail
      go_ret
      exact ⟨rfl, Below.refl _ _⟩
    have e1 : Hid (t1 = cost F L n) := Lib.hid (hc1.out (by omega))
    have e2 : Hid (t2 = cost G K m) := Lib.hid (hc2.out (by omega))
    have c1 : Hid (cost F L n ≤ 1048576) := Lib.hid (by rw [← e1.out]; omega)
    have c2 : Hid (cost G K m ≤ 1048576) := Lib.hid (by rw [← e2.out]; omega)
    have n1 : Hid (n ≤ 65536) := Lib.hid (by have := cost_ge F L n; have := c1.out; omega)
    have n2 : Hid (m ≤ 65536) := Lib.hid (by have := cost_ge G K m; have := c2.out; omega)
    have l1 : Hid (∀ i, i < n → L i ≤ 1048576) := Lib.hid (fun i hi => by have := cost_at (F := F) (L := L) hi; have := c1.out; omega)
    have l2 : Hid (∀ i, i < m → K i ≤ 1048576) := Lib.hid (fun i hi => by have := cost_at (F := G) (L := K) hi; have := c2.out; omega)
    go_wp2_with fail
    go_at_call 22
    refine (clone2 o n cap A L C F w n1.out hI hR.out l1.out z1.out).mono ?_
    rintro e w1 ⟨p1, A1, rfl, T1, b1⟩
    have hJ1 := hJ.below b1
    have hS1 : Hid (∀ r, r < m → StrRow w1 (B r) (K r) (D r) (G r)) := Lib.hid (fun r hr => ⟨(hS.out r hr).strs.below b1, (hS.out r hr).sz, (hS.out r hr).le, (hS.out r hr).nil⟩)
    go_wp2_with fail
    go_at_call 22
    refine (clone2 o2 m cap2 B K D G w1 n2.out hJ1 hS1.out l2.out z2.out).mono ?_
    rintro e w2 ⟨p2, B1, rfl, T2, b2⟩
    have T1' := T1.below b2
    replace b2 := b1.trans (b2.mono b1.size)
    clear b1 hJ1 hS1 T1
    go_wp2_with fail
    go_at_call 23
    refine (eq2 p1 p2 n m n m A1 B1 L K F G w2 (by have := n1.out; omega) (by have := n2.out; omega) T1' T2 l1.out l2.out).mono ?_
    rintro e w3 ⟨x, rfl, rfl, hx⟩
    replace hx := Lib.hid hx
    go_wp2_with fail
    go_at_call 24
    refine (encode2 p1 n n A1 L F w2 T1' n1.out c1.out).mono ?_
    rintro e w3 ⟨rfl, b3⟩
    have T2' := T2.below b3
    go_wp2_with fail
    go_at_call 24
    refine (encode2 p2 m m B1 K G w3 T2' n2.out c2.out).mono ?_
    rintro e w4 ⟨rfl, b4⟩
    replace b3 := b2.trans (b3.mono b2.size)
    replace b4 := b3.trans (b4.mono b3.size)
    clear b2 b3 T1' T2 T2'
    have hq : Hid ((strB (enc2 (rowsL F L n)) = strB (enc2 (rowsL G K m))) ↔ Eqs2 n m L K F G) := Lib.hid (by
      rw [← enc2_eq]
      constructor
      · intro h
        have := congrArg (fun b => b.data.toList) h
        simpa [strB] using this
      · intro h; rw [h])
    generalize strB (enc2 (rowsL F L n)) = q1 at *
    generalize strB (enc2 (rowsL G K m)) = q2 at *
    by_cases he : q1 = q2
    · have hxt : x = true := hx.out.2 (hq.out.1 he)
      subst hxt
      subst he
      go_wp2_with fail
      go_ret
      exact ⟨rfl, b4⟩
    · have hne : (q1.toList == q2.toList) = false := by
        rw [beq_eq_false_iff_ne]
        exact fun h => he (bytes_inj h)
      have hxf : x = false := by
        cases x with
        | false => rfl
        | true => exact absurd (hq.out.2 (hx.out.1 rfl)) he
      subst hxf
      go_wp2_with fail
      go_ret
      exact ⟨rfl, b4⟩
set_option maxRecDepth 100000 in
theorem walk (W : World) {H : Type} {enc : TypeId × Value → H} {base : Nat} {p0 p1 : List MemPlace} (v0 : Value) (d0 : DataW H) (k0 : Value.okWide Try.prog W .any base 44 v0) (h0 : DataW.Trod enc Try.prog W 0 (fun _ => true) true 44 v0 d0 p0)
    (v1 : Value) (d1 : DataW H) (k1 : Value.okWide Try.prog W .any base 44 v1) (h1 : DataW.Trod enc Try.prog W 0 (fun _ => true) true 44 v1 d1 p1) :
    Calls Try.prog 5 #[v0, v1] W fun e w' => e = .returned (.bool true) ∧ Below W.heap.size W w' := by
  obtain ⟨o, n, c, A, L, C, F, rfl, x1, x2, hH, hR, z0⟩ := openStrRows Try.underlying44 Try.underlying38 Try.underlying9 (by kernel_rfl) (by kernel_rfl) k0 h0
  obtain ⟨o2, m, c2, B, K, D, G, rfl, y1, y2, hJ, hS, z1⟩ := openStrRows Try.underlying44 Try.underlying38 Try.underlying9 (by kernel_rfl) (by kernel_rfl) k1 h1
  exact main o o2 n m c c2 A B L C K D F G W hH hJ hR hS (Nat.le_trans x1 x2) (Nat.le_trans y1 y2) z0 z1
end Go.Proofs.Ytolfajalkbnnoaa.fnStringArrayArraysEqualMatchesNestedEncoding
