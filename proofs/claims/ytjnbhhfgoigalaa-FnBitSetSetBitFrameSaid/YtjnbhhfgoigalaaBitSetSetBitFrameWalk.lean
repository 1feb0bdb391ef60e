/-
  The walk of FnBitSetSetBitFrame: it returns true for every size, list and bit. No condition.
-/
import Derived.Test.YtjnbhhfgoigalaaBitset
import Derived.Deep.RegionHeld3
import Derived.Deep.QuietTactic
import Derived.BigQuiet
import Derived.Outline
namespace Go.Proofs.Ytjnbhhfgoigalaa.fnBitSetSetBitFrame
open Go.RowKit Go.Proofs.Ytjnbhhfgoigalaa.Ints Go.Proofs.Ytjnbhhfgoigalaa.Bitset

theorem info64 : (Try.prog.info? 30).map (fun i => (i.zero, i.size, i.bytes)) = some (some (.int .u64 0), 1, 8) := by kernel_rfl
theorem infoB : (Try.prog.info? 4).map (fun i => (i.zero, i.size, i.bytes)) = some (some (.bool false), 1, 1) := by kernel_rfl

theorem eql_nil (t e : TypeId) (a : Option Addr) (l c : Nat) (h : Try.prog.underlying t = some (.slice e)) (w : World) : (binOp .eql t (.slice a l c) (.slice none 0 0)).run Try.prog w = .ok (.bool a.isNone) w := by
  simp [binOp, run_equal_slice_nil w t e a l c h]

theorem clone_some (a : Addr) (n cap : Nat) (f : Nat → Int) (w : World) (hn : n ≤ 1048576) (hI : IntsAt .u64 w (some a) n f) :
    Calls Try.prog 12 #[.slice (some a) n cap] w fun e w' => e = .returned (.slice (some ⟨w.heap.size, 0, none⟩) n n) ∧ Filling w w' 30 .u64 n n f := by
  have hmk := run_make_row' (P := Try.prog) 31 30 (.int .u64 0) 8 Try.underlying31 info64 rfl .i64 .i64 n (by omega) (by omega)
  have hnil := eql_nil 31 30 (some a) n cap Try.underlying31
  go_enter Try.func12, Try.ntmps12
  go_wp2
  clear hmk
  go_loopg [4] n (fun g i wr => ∃ r : Nat, r ≤ n ∧ g = n - r ∧ i = .int .i64 r ∧ Filling w wr 30 .u64 n r f)
  case atStart => exact ⟨0, Nat.zero_le _, rfl, rfl, filling_start _ _ _ _ _⟩
  case round =>
    obtain ⟨r, hr, rfl, rfl, hF⟩ := hrel
    rcases Nat.lt_or_ge r n with hlt | hge
    · rcases hI with h0 | ⟨b, off, he, hb, hc⟩
      · omega
      · cases he
        have g2 : wr.cell? ⟨b, off + r, none⟩ = some (.int .u64 (f r)) := (hF.below.cell (by exact hb)).trans (hc r hlt)
        have g4 : wr.cell? ⟨w.heap.size, r, none⟩ = some (.int .u64 0) := by simpa [fillTo] using hF.row.cell hlt
        have g5 := hF.row.frozen r
        clear hc
        go_wp2
        go_roundg (n - (r + 1))
        case measure => omega
        case rel => exact ⟨r + 1, by omega, rfl, rfl, filling_step hF⟩
    · have hrn : r = n := by omega
      subst hrn
      clear hI
      go_wp2
      go_ret
      exact ⟨rfl, hF⟩

theorem clone_nil (w : World) : Calls Try.prog 12 #[.slice none 0 0] w fun e w' => e = .returned (.slice none 0 0) ∧ w = w' := by
  have hnil := eql_nil 31 30 none 0 0 Try.underlying31
  go_enter Try.func12, Try.ntmps12
  go_wp2
  go_ret
  exact ⟨rfl, rfl⟩

def Cloned (k : IntKind) (n : Nat) (f : Nat → Int) (w : World) (e : Ending) (w' : World) : Prop := ∃ o, e = .returned (.slice o n n) ∧ IntsAt k w' o n f ∧ Below w.heap.size w w'

theorem clone (o : Option Addr) (n cap : Nat) (f : Nat → Int) (w : World) (hn : n ≤ 1048576) (hI : IntsAt .u64 w o n f) (h0 : o = none → n = 0 ∧ cap = 0) :
    Calls Try.prog 12 #[.slice o n cap] w fun e w' => Cloned .u64 n f w e w' := by
  cases o with
  | none =>
    obtain ⟨rfl, rfl⟩ := h0 rfl
    refine (clone_nil w).mono ?_
    rintro e w' ⟨rfl, rfl⟩
    exact ⟨none, rfl, .inl rfl, Below.refl _ _⟩
  | some a =>
    refine (clone_some a n cap f w hn hI).mono ?_
    rintro e w' ⟨rfl, hF⟩
    exact ⟨_, rfl, ints_of_row (hF.row.congr fun i hi => by simp [fillTo, hi]), hF.below⟩

def SomeBool (w : World) (e : Ending) (w' : World) : Prop := ∃ r : Bool, e = .returned (.bool r) ∧ w = w'
theorem bytes (o : Option Addr) (n c : Nat) (x y : Value) (w : World) (m1 : n ≤ maxLen) :
    Calls Try.prog 11 #[x, .slice o n c, y] w (SomeBool w) := by
  unfold maxLen at m1
  go_enter Try.func11, Try.ntmps11
  go_wp2
  all_goals
    go_ret
    exact ⟨_, rfl, rfl⟩

structure St (w1 wr : World) (m b d : Nat) (g : Nat → Int) : Prop where
  below : Below w1.heap.size w1 wr
  bits : wr.rowIs b 5 m (fun i => .int .u8 (g i))
  box : wr.cell? ⟨d, 0, none⟩ = some (.slice (some ⟨b, 0, none⟩) m m)
  hb : w1.heap.size ≤ b
  ne : d ≠ b
  byte : Byte g

variable {w1 wr : World} {m b d : Nat} {g : Nat → Int}
theorem St.dlt (h : St w1 wr m b d g) : d < wr.heap.size := lt_of_cell h.box
theorem St.alloc (h : St w1 wr m b d g) (o : Obj) : St w1 (wr.alloc o) m b d g :=
  ⟨h.below.alloc h.below.size _, h.bits.alloc _, (World.cell?_alloc_lt wr o ⟨d, 0, none⟩ h.dlt).trans h.box, h.hb, h.ne, h.byte⟩
theorem St.set (h : St w1 wr m b d g) (k : Nat) : St w1 (wr.setCell ⟨b, k / 8, none⟩ (.int .u8 (setOn g k (k / 8)))) m b d (setOn g k) :=
  ⟨h.below.setCell h.hb _, (h.bits.set (k / 8) _).congr fun i _ => by
      show (if i = k / 8 then Value.int .u8 (setOn g k (k / 8)) else .int .u8 (g i)) = .int .u8 (setOn g k i)
      by_cases e : i = k / 8
      · rw [if_pos e, e]
      · rw [if_neg e, setOn, if_neg e],
    (World.cell?_setCell_other wr ⟨b, k / 8, none⟩ ⟨d, 0, none⟩ _ (fun e => h.ne (congrArg Addr.block e).symm)).trans h.box, h.hb, h.ne, setOn_byte h.byte k⟩
theorem St.other (h : St w1 wr m b d g) {p : Addr} (v : Value) (h1 : w1.heap.size ≤ p.block) (h2 : b ≠ p.block) (h3 : d ≠ p.block) : St w1 (wr.setCell p v) m b d g :=
  ⟨h.below.setCell h1 _, h.bits.setOther h2 _, (World.cell?_setCell_other wr p ⟨d, 0, none⟩ _ (fun e => h3 (congrArg Addr.block e).symm)).trans h.box, h.hb, h.ne, h.byte⟩

theorem St.start {w1 w2 : World} {m : Nat} (hB : Below w1.heap.size w1 w2) (hR : w2.rowIs (w1.heap.size + 1) 5 m (fun _ => .int .u8 0)) :
    St w1 (w2.alloc (.cells #[.slice (some ⟨w1.heap.size + 1, 0, none⟩) m m] 36)) m (w1.heap.size + 1) w2.heap.size (fun _ => 0) :=
  ⟨hB.alloc hB.size _, hR.alloc _, by simp, Nat.le_succ _, fun e => by have := hR.lt; omega, fun _ => ⟨by omega, by omega⟩⟩

def befRow (n r : Nat) (g : Nat → Int) : Nat → Value := fun i => if i < r then .bool (bitOn g i) else .bool false

theorem below_drewN {B : Nat} {a w : World} (h : Below B a w) (n : Nat) : Below B a (w.drewN n) := ⟨h.os, h.tape, h.output, h.size, h.block⟩
theorem rowIs_drewN {w : World} {b : Nat} {t : TypeId} {n : Nat} {f : Nat → Value} (h : w.rowIs b t n f) (k : Nat) : (w.drewN k).rowIs b t n f := h
theorem st_drew {w1 wr : World} {m b d : Nat} {g : Nat → Int} (h : St w1 wr m b d g) (n : Nat) : St w1 (wr.drewN n) m b d g := ⟨below_drewN h.below _, rowIs_drewN h.bits _, h.box, h.hb, h.ne, h.byte⟩
def Kp (w1 w' : World) (m b d eb t q : Nat) (g' g : Nat → Int) : Prop := w'.cell? ⟨d, 0, none⟩ = some (.slice (some ⟨b, 0, none⟩) m m) ∧ w'.cell? ⟨eb, q, none⟩ = some (.bool (bitOn g q)) ∧ St w1 w' m b d g' ∧ w'.rowIs eb 4 t (befRow t t g)
theorem kp_drew {w1 w' : World} {m b d eb t q : Nat} {g' g : Nat → Int} (h : w'.cell? ⟨d, 0, none⟩ = some (.slice (some ⟨b, 0, none⟩) m m) ∧ w'.cell? ⟨eb, q, none⟩ = some (.bool (bitOn g q)) ∧ St w1 w' m b d g' ∧ w'.rowIs eb 4 t (befRow t t g)) :
    w'.drew.cell? ⟨d, 0, none⟩ = some (.slice (some ⟨b, 0, none⟩) m m) ∧ w'.drew.cell? ⟨eb, q, none⟩ = some (.bool (bitOn g q)) ∧ St w1 w'.drew m b d g' ∧ w'.drew.rowIs eb 4 t (befRow t t g) := ⟨h.1, h.2.1, ⟨h.2.2.1.below.drew, h.2.2.1.bits.drew, h.2.2.1.box, h.2.2.1.hb, h.2.2.1.ne, h.2.2.1.byte⟩, h.2.2.2.drew⟩
theorem kp_keep {w1 W w' : World} {m b d eb t q : Nat} {g' g : Nat → Int} {o : Obj} (h : W.cell? ⟨d, 0, none⟩ = some (.slice (some ⟨b, 0, none⟩) m m) ∧ W.cell? ⟨eb, q, none⟩ = some (.bool (bitOn g q)) ∧ St w1 W m b d g' ∧ W.rowIs eb 4 t (befRow t t g)) (hw : W.alloc o = w') :
    w'.cell? ⟨d, 0, none⟩ = some (.slice (some ⟨b, 0, none⟩) m m) ∧ w'.cell? ⟨eb, q, none⟩ = some (.bool (bitOn g q)) ∧ St w1 w' m b d g' ∧ w'.rowIs eb 4 t (befRow t t g) := by
  subst hw
  exact ⟨(World.cell?_alloc_lt W o ⟨d, 0, none⟩ h.2.2.1.dlt).trans h.1, (World.cell?_alloc_lt W o ⟨eb, q, none⟩ h.2.2.2.lt).trans h.2.1, h.2.2.1.alloc _, h.2.2.2.alloc _⟩
theorem hasB {w1 : World} {d eb t : Nat} {g0 : Nat → Int} (b m k : Nat) (r : Bool) (g : Nat → Int) (w : World) (hk : k / 8 < m) (hm : m ≤ 8192) (hr : bitOn g k = r)
    (h : w.cell? ⟨d, 0, none⟩ = some (.slice (some ⟨b, 0, none⟩) m m) ∧ w.cell? ⟨eb, k, none⟩ = some (.bool (bitOn g0 k)) ∧ St w1 w m b d g ∧ w.rowIs eb 4 t (befRow t t g0)) :
    Calls Try.prog 15 #[.agg #[.slice (some ⟨b, 0, none⟩) m m], .int .u64 k] w
      fun e w' => e = .returned (.bool r) ∧ w.alloc (.cells #[.slice (some ⟨b, 0, none⟩) m m] 36) = w' := by
  subst hr
  exact hasBit b m k g w hk hm h.2.2.1.bits

set_option maxHeartbeats 4000000 in
theorem main (o : Option Addr) (l c : Nat) (f : Nat → Int) (n k : Nat) (w : World) (m1 : l ≤ maxLen) (h1 : IntsAt .u64 w o l f) (z1 : o = none → l = 0 ∧ c = 0) (hf : ∀ i, i < l → 0 ≤ f i) :
    Calls Try.prog 4 #[.int .u64 n, .slice o l c, .int .u64 k] w fun e w' => e = .returned (.bool true) ∧ Below w.heap.size w w' := by
  have hm1 := m1
  unfold maxLen at hm1
  go_enter Try.func4, Try.ntmps4
  go_wp2_with fail
  go_at_call 11
  refine (bytes _ _ _ _ _ _ m1).mono ?_
  rintro e w' ⟨r, rfl, rfl⟩
  cases r with
  | false =>
    go_wp2
    go_ret
    exact ⟨rfl, Below.refl _ _⟩
  | true =>
    by_cases big : n ≤ 65536 ∧ l ≤ 131072 ∧ k < n
    · obtain ⟨b1, b2, b3⟩ := big
      go_wp2_with fail
      go_at_call 12
      refine (clone o l c f w (by omega) h1 z1).mono ?_
      rintro e w1 ⟨p1, rfl, i1, B1⟩
      clear h1 z1
      go_wp2_with fail
      go_at_call 13
      refine (newBitSet n _ b1).mono ?_
      rintro e w2 ⟨rfl, B2, R2⟩
      have hS0 := St.start B2 R2
      have hmb : (n + 7) / 8 ≤ 8192 := by omega
      have hmin : ∀ i : Nat, i < n → i / 8 < (n + 7) / 8 := fun i hi => by omega
      replace hmin := Lib.hid hmin
      generalize (n + 7) / 8 = m at hS0 hmb hmin
      clear B2 R2
      go_wp2_with fail
      obtain ⟨d, hd⟩ : ∃ d, d = w2.heap.size := ⟨_, rfl⟩
      obtain ⟨b, hb⟩ : ∃ b, b = w1.heap.size + 1 := ⟨_, rfl⟩
      rw [← hd, ← hb] at hS0 ⊢
      replace hd := Lib.hid hd
      replace hb := Lib.hid hb
      go_loopg [32] l (fun gk i wr => ∃ r : Nat, ∃ g, r ≤ l ∧ gk = l - r ∧ i = .int .i64 r ∧ St w1 wr m b d g)
      case atStart => exact ⟨0, _, Nat.zero_le _, rfl, rfl, hS0⟩
      case round =>
        obtain ⟨r, g, hr, rfl, rfl, hS⟩ := hrel
        clear hS0
        rcases Nat.lt_or_ge r l with hlt | hge
        · rcases i1 with h0 | ⟨bb, off, he, hbb, hc⟩
          · omega
          · cases he
            obtain ⟨q, hq⟩ := Int.eq_ofNat_of_zero_le (hf r hlt)
            have g2 : wr.cell? ⟨bb, off + r, none⟩ = some (.int .u64 q) := by rw [← hq]; exact (hS.below.cell (by exact hbb)).trans (hc r hlt)
            have g3 := hS.box
            clear hc hf hq
            by_cases hqn : q < n
            · have hqm := hmin.out q hqn
              have hR := Lib.hid hS.bits
              go_wp2_with fail
              go_at_call 14
              refine (setBit b m q g _ hqm hmb hR.out).mono ?_
              rintro e w3 ⟨rfl, rfl⟩
              go_wp2_with fail
              go_roundg (l - (r + 1))
              case measure => omega
              case rel => exact ⟨r + 1, _, by omega, rfl, rfl, (hS.set q).alloc _⟩
            · go_wp2_with fail
              go_roundg (l - (r + 1))
              case measure => omega
              case rel => exact ⟨r + 1, _, by omega, rfl, rfl, hS⟩
        · have hrn : r = l := by omega
          subst hrn
          clear i1 hf
          have hmk := run_make_row' (P := Try.prog) 39 4 (.bool false) 1 Try.underlying39 infoB rfl .u64 .u64 n (by omega) (by omega)
          go_wp2_with fail
          clear hmk
          have hS2 := hS.alloc (.cells (madeCells #[.bool false] n) 4)
          have hR0 := World.rowIs_made wr (.bool false) n 4
          have he1 : wr.heap.size ≠ b := by have := hS.bits.lt; omega
          have he2 : wr.heap.size ≠ d := by have := hS.dlt; omega
          have he3 : w1.heap.size ≤ wr.heap.size := hS.below.size
          obtain ⟨eb, heb⟩ : ∃ eb, eb = wr.heap.size := ⟨_, rfl⟩
          rw [← heb] at hR0 he1 he2 he3 ⊢
          replace heb := Lib.hid heb
          clear hS
          go_loopg [11] n (fun gk i wr => ∃ r : Nat, r ≤ n ∧ gk = n - r ∧ i = .int .u64 r ∧ St w1 wr m b d g ∧ wr.rowIs eb 4 n (befRow n r g))
          case atStart => exact ⟨0, Nat.zero_le _, rfl, rfl, hS2, hR0.congr fun i _ => by simp [befRow]⟩
          case round =>
            obtain ⟨t, ht, rfl, rfl, hS, hR⟩ := hrel
            clear hS2 hR0
            rcases Nat.lt_or_ge t n with hlt | hge
            · have g3 := hS.box
              have g4 : wr.cell? ⟨eb, t, none⟩ = some (.bool false) := by have := hR.cell hlt; simpa [befRow] using this
              have g5 := hR.frozen t
              have g6 := hR.lt
              have hqm := hmin.out t hlt
              have hRb := Lib.hid hS.bits
              go_wp2_with fail
              go_at_call 15
              refine (hasBit b m t g _ hqm hmb hRb.out).mono ?_
              rintro e w3 ⟨rfl, rfl⟩
              go_wp2_with fail
              go_roundg (n - (t + 1))
              case measure => omega
              case rel =>
                refine ⟨t + 1, by omega, rfl, rfl, (hS.other _ he3 he1.symm he2.symm).alloc _, ((hR.set t _).alloc _).congr fun i _ => ?_⟩
                show (if i = t then Value.bool (bitOn g t) else befRow n t g i) = befRow n (t + 1) g i
                simp only [befRow]
                by_cases e : i = t
                · subst e; simp
                · rw [if_neg e]
                  by_cases h : i < t
                  · rw [if_pos h, if_pos (by omega)]
                  · rw [if_neg h, if_neg (by omega)]
            · have htn : t = n := by omega
              subst htn
              have g3 := hS.box
              have hkm := hmin.out k b3
              have hRb := Lib.hid hS.bits
              have hon : bitOn (setOn g k) k = true := by rw [bitOn_set hS.byte]; simp
              have hoth : ∀ i, i ≠ k → bitOn (setOn g k) i = bitOn g i := fun i hi => by rw [bitOn_set hS.byte]; simp [hi]
              replace hoth := Lib.hid hoth
              replace hon := Lib.hid hon
              go_wp2_with fail
              go_at_call 14
              refine (setBit b m k g _ hkm hmb hRb.out).mono ?_
              rintro e w3 ⟨rfl, rfl⟩
              have hS3 := (hS.set k).alloc (.cells #[.slice (some ⟨b, 0, none⟩) m m] 36)
              have hR3 := (hR.setOther (a := ⟨b, k / 8, none⟩) he1 (.int .u8 (setOn g k (k / 8)))).alloc (.cells #[.slice (some ⟨b, 0, none⟩) m m] 36)
              generalize (wr.setCell ⟨b, k / 8, none⟩ (.int .u8 (setOn g k (k / 8)))).alloc (.cells #[.slice (some ⟨b, 0, none⟩) m m] 36) = w4 at hS3 hR3 ⊢
              clear hS hR g3 hRb
              generalize setOn g k = g' at hS3 hon hoth
              have g3 := hS3.box
              have hRb := Lib.hid hS3.bits
              go_wp2_with fail
              go_at_call 15
              refine (hasBit b m k g' _ hkm hmb hRb.out).mono ?_
              rintro e w5 ⟨rfl, rfl⟩
              have hS5 := hS3.alloc (.cells #[.slice (some ⟨b, 0, none⟩) m m] 36)
              have hR5 := hR3.alloc (.cells #[.slice (some ⟨b, 0, none⟩) m m] 36)
              generalize w4.alloc (.cells #[.slice (some ⟨b, 0, none⟩) m m] 36) = w5 at hS5 hR5 ⊢
              clear hS3 hR3 g3 hRb
              rw [hon.out]
              go_wp2_with fail
              go_loopg [12] t (fun gk i wr => ∃ r : Nat, r ≤ t ∧ gk = t - r ∧ i = .int .u64 r ∧ St w1 wr m b d g' ∧ wr.rowIs eb 4 t (befRow t t g))
              case atStart => exact ⟨0, Nat.zero_le _, rfl, rfl, hS5, hR5⟩
              case round =>
                obtain ⟨q, hq, rfl, rfl, hS, hR⟩ := hrel
                clear hS5 hR5
                rcases Nat.lt_or_ge q t with hlt | hge
                · have g3 := hS.box
                  have g4 : wr.cell? ⟨eb, q, none⟩ = some (.bool (bitOn g q)) := by have := hR.cell hlt; simpa [befRow, hlt] using this
                  have g6 := hR.lt
                  have hqm := hmin.out q hlt
                  have hRb := Lib.hid hS.bits
                  by_cases hqk : q = k
                  · have hn : ((q : Int) != (k : Int)) = false := by simp [hqk]
                    have hn2 : (q == k) = true := by simp [hqk]
                    have hn3 : (q != k) = false := by simp [hqk]
                    have hn4 : ((q : Int) == (k : Int)) = true := by simp [hqk]
                    replace hqk := Lib.hid hqk
                    go_wp2_with fail
                    go_quiet (fail)
                    go_wp2_with fail
                    go_roundg (t - (q + 1))
                    case measure => omega
                    case rel => exact ⟨q + 1, by omega, rfl, rfl, st_drew hS _, rowIs_drewN hR _⟩
                  · have hn : ((q : Int) != (k : Int)) = true := by rw [bne_iff_ne]; omega
                    have hbq := Lib.hid (hoth.out q hqk)
                    go_wp2_with fail
                    have hK : Kp w1 wr m b d eb t q g' g := ⟨g3, g4, hS, hR⟩
                    have hn2 : (q == k) = false := by simp [hqk]
                    have hn3 : (q != k) = true := by simp [hqk]
                    have hn4 : ((q : Int) == (k : Int)) = false := by rw [beq_eq_false_iff_ne]; omega
                    have hqk' := Lib.hid hqk
                    clear hqk hRb hS hR
                    go_wp2_with fail
                    go_region_held3 (fun w' => w'.cell? ⟨d, 0, none⟩ = some (.slice (some ⟨b, 0, none⟩) m m) ∧ w'.cell? ⟨eb, q, none⟩ = some (.bool (bitOn g q)) ∧ St w1 w' m b d g' ∧ w'.rowIs eb 4 t (befRow t t g))
                      (first | exact hK | exact kp_drew (by assumption) | exact kp_keep (by assumption) (by assumption))
                      ((go_at_call 15; with_reducible refine (hasB b m q _ g' _ hqm hmb hbq.out (by assumption)).mono ?_; rintro e w3 ⟨rfl, hw3⟩))
                    have hK3 : w3.cell? ⟨d, 0, none⟩ = some (.slice (some ⟨b, 0, none⟩) m m) ∧ w3.cell? ⟨eb, q, none⟩ = some (.bool (bitOn g q)) ∧ St w1 w3 m b d g' ∧ w3.rowIs eb 4 t (befRow t t g) := by assumption
                    obtain ⟨_, _, hS4, hR4⟩ := hK3
                    go_wp2_with fail
                    go_roundg (t - (q + 1))
                    case measure => omega
                    case rel => exact ⟨q + 1, by omega, rfl, rfl, hS4, hR4⟩
                · go_wp2_with fail
                  go_ret
                  exact ⟨rfl, B1.trans (hS.below.mono B1.size)⟩
    · go_wp2
      all_goals first | omega | (go_ret; exact ⟨rfl, Below.refl _ _⟩)

theorem walk (W : World) {H : Type} {enc : TypeId × Value → H} {base : Nat} {p1 : List MemPlace} (a0 : Int) (w0 : (Lit.int .u64 a0).wf = true)
    (v1 : Value) (d1 : DataW H) (k1 : Value.okWide Try.prog W .any base 31 v1) (h1 : DataW.Trod enc Try.prog W 0 (fun _ => true) true 31 v1 d1 p1) (a2 : Int) (w2 : (Lit.int .u64 a2).wf = true) :
    Calls Try.prog 4 #[.int .u64 a0, v1, .int .u64 a2] W fun e w' => e = .returned (.bool true) ∧ Below W.heap.size W w' := by
  have e1 : IntKind.u64.min = 0 := rfl
  have e2 : IntKind.u64.max = 18446744073709551615 := rfl
  obtain ⟨o1, n1, c1, f1, rfl, x1, y1, i1, g1, z1⟩ := openInts (k := .u64) Try.underlying31 Try.underlying30 (by kernel_rfl) k1 h1
  have q0 : 0 ≤ a0 := by have : 0 ≤ a0 ∧ a0 ≤ 18446744073709551615 := by simpa [Lit.wf, e1, e2] using w0
                         exact this.1
  have q2 : 0 ≤ a2 := by have : 0 ≤ a2 ∧ a2 ≤ 18446744073709551615 := by simpa [Lit.wf, e1, e2] using w2
                         exact this.1
  obtain ⟨n, rfl⟩ := Int.eq_ofNat_of_zero_le q0
  obtain ⟨k, rfl⟩ := Int.eq_ofNat_of_zero_le q2
  refine main o1 n1 c1 f1 n k W (Nat.le_trans x1 y1) i1 z1 fun i hi => ?_
  have : 0 ≤ f1 i ∧ f1 i ≤ 18446744073709551615 := by simpa [Lit.wf, e1, e2] using g1 i hi
  exact this.1
end Go.Proofs.Ytjnbhhfgoigalaa.fnBitSetSetBitFrame
