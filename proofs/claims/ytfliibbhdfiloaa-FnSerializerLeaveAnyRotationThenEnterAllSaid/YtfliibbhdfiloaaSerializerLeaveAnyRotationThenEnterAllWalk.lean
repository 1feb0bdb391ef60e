/-
  The walk of FnSerializerLeaveAnyRotationThenEnterAll: it returns true for every three numbers. No condition.
-/
import Derived.Test.YtfliibbhdfiloaaWgs2
namespace Go.Proofs.Ytfliibbhdfiloaa.fnSerializerLeaveAnyRotationThenEnterAll
open Go.RowKit Go.Proofs.Ytfliibbhdfiloaa.Ints Go.Proofs.Ytfliibbhdfiloaa.Wgs

/-- Which step leaves place j, in the order that begins at r. -/
def stp (n r j : Nat) : Nat := if r ≤ j then j - r else j + n - r
/-- What place j reads when k steps have been left. -/
def lf (n r k : Nat) : Nat → Int := fun j => if stp n r j < k then 0 else 4294967296
def pos (n r k : Nat) : Nat := if k + r < n then k + r else k + r - n
theorem pos_lt {n r k : Nat} (hr : r < n) (hk : k < n) : pos n r k < n := by unfold pos; split <;> omega
theorem pos_mod {n r k : Nat} (hr : r < n) (hk : k < n) : (k + r) % n = pos n r k := by
  unfold pos
  split
  · exact Nat.mod_eq_of_lt (by assumption)
  · rw [Nat.mod_eq_sub_mod (by omega), Nat.mod_eq_of_lt (by omega)]
theorem stp_pos {n r k : Nat} (hr : r < n) (hk : k < n) : stp n r (pos n r k) = k := by unfold pos stp; split <;> split <;> omega
theorem lf_pos {n r k : Nat} (hr : r < n) (hk : k < n) : lf n r k (pos n r k) = 4294967296 := by unfold lf; rw [stp_pos hr hk, if_neg (by omega)]
theorem lf_succ {n r k j : Nat} (hr : r < n) (hk : k < n) (hj : j < n) : upd (lf n r k) (pos n r k) 0 j = lf n r (k + 1) j := by
  unfold upd lf
  by_cases e : j = pos n r k
  · rw [if_pos e, e, stp_pos hr hk, if_pos (by omega)]
  · rw [if_neg e]
    have hne : stp n r j ≠ k := fun h => e (by unfold stp at h; unfold pos; split at h <;> split <;> omega)
    by_cases h2 : stp n r j < k
    · rw [if_pos h2, if_pos (by omega)]
    · rw [if_neg h2, if_neg (by omega)]
theorem lf_all {n r j : Nat} (hr : r < n) (hj : j < n) : lf n r n j = 0 := by
  unfold lf stp; rw [if_pos (by split <;> omega)]
structure St (w wr : World) (S b n : Nat) (x : Nat → Int) : Prop where
  below : Below w.heap.size w wr
  s : wr.rowIs S 24 1 (fun _ => .slice (some ⟨b, 0, none⟩) n n)
  row : wr.rowIs b 45 (n * 2) (wrow x)
  ge : w.heap.size ≤ b
  ne : S ≠ b
theorem wrow_congr {n : Nat} {x y : Nat → Int} (h : ∀ j, j < n → x j = y j) : ∀ k, k < n * 2 → wrow x k = wrow y k := fun k hk => by
  unfold wrow
  split
  · rw [h (k / 2) (by omega)]
  · rfl
theorem St.put {w wr w' : World} {S b n i : Nat} {x y : Nat → Int} (h : St w wr S b n x) (g : Put wr b i n 0 w') (e : ∀ j, j < n → upd x i 0 j = y j) : St w w' S b n y :=
  ⟨h.below.trans (g.below h.ge), h.s.of_block (g.other _ h.ne), (row_put h.row g).congr (wrow_congr e), h.ge, h.ne⟩
set_option maxRecDepth 100000 in
set_option maxHeartbeats 4000000 in
theorem good (n : Nat) (off neg : Int) (w : World) (hn : n ≤ 65536) :
    Calls Try.prog 3 #[.int .i64 n, .int .i64 off, .int .i64 neg] w fun e w' => e = .returned (.bool true) ∧ Below w.heap.size w w' := by
  go_enter Try.func3, Try.ntmps3
  go_wp2_with fail
  go_at_call 5
  refine (makeS n hn w).mono ?_
  rintro e w1 ⟨b, rfl, hb, B1, R1⟩
  go_wp2_with fail
  have hS : St w (w1.alloc (.cells #[.slice (some ⟨b, 0, none⟩) n n] 24)) w1.heap.size b n (ones n) := ⟨B1.alloc B1.size _, ⟨_, heap_alloc_new _ _, rfl, fun i hi => by
    match i, hi with
    | 0, _ => rfl⟩, R1.alloc _, hb, by have := R1.lt; omega⟩
  clear B1 R1
  generalize (w1.alloc (.cells #[.slice (some ⟨b, 0, none⟩) n n] 24)) = w2 at hS ⊢
  generalize w1.heap.size = S at hS ⊢
  go_at_call 6
  refine (enter0 _ 0 (by omega) w2).mono ?_
  rintro e w' ⟨rfl, rfl⟩
  rcases Classical.em (neg ≤ 0) with hneg | hneg
  all_goals rcases Nat.eq_zero_or_pos n with hz | hz
  · subst hz
    go_wp2_with fail
    go_at_call 6
    refine (enter0 _ neg hneg w2).mono ?_
    rintro e w' ⟨rfl, rfl⟩
    go_wp2_with fail
    go_loopg [10] 0 (fun gk i wr => i = .int .i64 0 ∧ wr = w2)
    case atStart => exact ⟨rfl, rfl⟩
    case round =>
      obtain ⟨rfl, rfl⟩ := hrel
      go_wp2_with fail
      go_ret
      exact ⟨rfl, hS.below⟩
  · have hlt1 : off.tmod n < n := Int.tmod_lt_of_pos _ (by omega)
    have hlt2 : -(n : Int) < off.tmod n := by
      have := Int.tmod_lt_of_pos (-off) (show (0 : Int) < n by omega)
      rw [Int.neg_tmod] at this
      omega
    have hn0 : (0 : Int) < n := by omega
    rcases Classical.em (off.tmod n < 0) with hs | hs
    · obtain ⟨r, hr⟩ : ∃ r : Nat, off.tmod n = (r : Int) - n := ⟨(off.tmod n + n).toNat, by omega⟩
      rw [hr] at hlt1 hlt2 hs
      have hrn : r < n := by omega
      have hsum : IntKind.i64.wrap ((r : Int) - n + n) = r := by rw [Int.sub_add_cancel]; exact IntWalk.i64_in _ (by omega)
      go_wp2_with fail
      go_at_call 6
      refine (enter0 _ neg hneg w2).mono ?_
      rintro e w' ⟨rfl, rfl⟩
      go_wp2_with fail
      replace hr := Lib.hid hr
      clear hlt1 hlt2 hs
      have hT0 : St w w2 S b n (lf n r 0) := ⟨hS.below, hS.s, hS.row.congr (wrow_congr fun j hj => by simp [ones, lf, hj]), hS.ge, hS.ne⟩
      clear hS
      go_loopg [9] n (fun gk k wr => ∃ q : Nat, q ≤ n ∧ gk = n - q ∧ k = .int .i64 q ∧ St w wr S b n (lf n r q))
      case atStart => exact ⟨0, Nat.zero_le _, rfl, rfl, hT0⟩
      case round =>
        clear hT0
        obtain ⟨q, hq, rfl, rfl, hT⟩ := hrel
        rcases Nat.lt_or_ge q n with hlt | hge
        · have hc : wr.cell? ⟨S, 0, none⟩ = some (.slice (some ⟨b, 0, none⟩) n n) := hT.s.cell (i := 0) (by omega)
          have hp := pos_lt hrn hlt
          have hW := wgr_of hT.row hp (y := 4294967296) (lf_pos hrn hlt)
          have hmod : ((q : Int) + r) % n = (pos n r q : Nat) := by rw [← pos_mod hrn hlt]; simp
          generalize hpe : pos n r q = pp at *
          replace hpe := Lib.hid hpe
          go_wp2_with fail
          go_at_call 7
          refine (leave S b pp n wr hn hc hW).mono ?_
          rintro e w' ⟨rfl, g⟩
          have hT2 := hT.put g (y := lf n r (q + 1)) (fun j hj => by rw [← hpe.out]; exact lf_succ hrn hlt hj)
          clear hT g hW hc
          go_wp2_with fail
          go_roundg (n - (q + 1))
          case measure => omega
          case rel => exact ⟨q + 1, by omega, rfl, by go_num, hT2⟩
        · obtain rfl : n = q := by omega
          go_wp2_with fail
          go_loopg [10] n (fun gk i wr => ∃ q : Nat, q ≤ n ∧ gk = q ∧ i = .int .i64 q ∧ St w wr S b n (lf n r n))
          case atStart => exact ⟨n, Nat.le_refl _, rfl, rfl, hT⟩
          case round =>
            clear hT
            obtain ⟨q, hq, rfl, rfl, hT⟩ := hrel
            cases gk with
            | zero =>
              go_wp2_with fail
              go_ret
              exact ⟨rfl, hT.below⟩
            | succ q =>
              have hql : q < n := by omega
              have hc : wr.cell? ⟨S, 0, none⟩ = some (.slice (some ⟨b, 0, none⟩) n n) := hT.s.cell (i := 0) (by omega)
              have hW := wgr_of hT.row hql (y := 0) (lf_all hrn hql)
              go_wp2_with fail
              go_at_call 6
              refine (enter S b q n wr hn hc hW).mono ?_
              rintro e w' ⟨rfl, rfl⟩
              go_wp2_with fail
              go_roundg q
              case measure => omega
              case rel => exact ⟨q, by omega, rfl, by go_num, hT⟩
    · obtain ⟨r, hr⟩ : ∃ r : Nat, off.tmod n = (r : Int) := ⟨(off.tmod n).toNat, by omega⟩
      rw [hr] at hlt1 hlt2 hs
      have hrn : r < n := by omega
      go_wp2_with fail
      go_at_call 6
      refine (enter0 _ neg hneg w2).mono ?_
      rintro e w' ⟨rfl, rfl⟩
      go_wp2_with fail
      replace hr := Lib.hid hr
      clear hlt1 hlt2 hs
      have hT0 : St w w2 S b n (lf n r 0) := ⟨hS.below, hS.s, hS.row.congr (wrow_congr fun j hj => by simp [ones, lf, hj]), hS.ge, hS.ne⟩
      clear hS
      go_loopg [9] n (fun gk k wr => ∃ q : Nat, q ≤ n ∧ gk = n - q ∧ k = .int .i64 q ∧ St w wr S b n (lf n r q))
      case atStart => exact ⟨0, Nat.zero_le _, rfl, rfl, hT0⟩
      case round =>
        clear hT0
        obtain ⟨q, hq, rfl, rfl, hT⟩ := hrel
        rcases Nat.lt_or_ge q n with hlt | hge
        · have hc : wr.cell? ⟨S, 0, none⟩ = some (.slice (some ⟨b, 0, none⟩) n n) := hT.s.cell (i := 0) (by omega)
          have hp := pos_lt hrn hlt
          have hW := wgr_of hT.row hp (y := 4294967296) (lf_pos hrn hlt)
          have hmod : ((q : Int) + r) % n = (pos n r q : Nat) := by rw [← pos_mod hrn hlt]; simp
          generalize hpe : pos n r q = pp at *
          replace hpe := Lib.hid hpe
          go_wp2_with fail
          go_at_call 7
          refine (leave S b pp n wr hn hc hW).mono ?_
          rintro e w' ⟨rfl, g⟩
          have hT2 := hT.put g (y := lf n r (q + 1)) (fun j hj => by rw [← hpe.out]; exact lf_succ hrn hlt hj)
          clear hT g hW hc
          go_wp2_with fail
          go_roundg (n - (q + 1))
          case measure => omega
          case rel => exact ⟨q + 1, by omega, rfl, by go_num, hT2⟩
        · obtain rfl : n = q := by omega
          go_wp2_with fail
          go_loopg [10] n (fun gk i wr => ∃ q : Nat, q ≤ n ∧ gk = q ∧ i = .int .i64 q ∧ St w wr S b n (lf n r n))
          case atStart => exact ⟨n, Nat.le_refl _, rfl, rfl, hT⟩
          case round =>
            clear hT
            obtain ⟨q, hq, rfl, rfl, hT⟩ := hrel
            cases gk with
            | zero =>
              go_wp2_with fail
              go_ret
              exact ⟨rfl, hT.below⟩
            | succ q =>
              have hql : q < n := by omega
              have hc : wr.cell? ⟨S, 0, none⟩ = some (.slice (some ⟨b, 0, none⟩) n n) := hT.s.cell (i := 0) (by omega)
              have hW := wgr_of hT.row hql (y := 0) (lf_all hrn hql)
              go_wp2_with fail
              go_at_call 6
              refine (enter S b q n wr hn hc hW).mono ?_
              rintro e w' ⟨rfl, rfl⟩
              go_wp2_with fail
              go_roundg q
              case measure => omega
              case rel => exact ⟨q, by omega, rfl, by go_num, hT⟩
  · subst hz
    go_wp2_with fail
    go_loopg [10] 0 (fun gk i wr => i = .int .i64 0 ∧ wr = w2)
    case atStart => exact ⟨rfl, rfl⟩
    case round =>
      obtain ⟨rfl, rfl⟩ := hrel
      go_wp2_with fail
      go_ret
      exact ⟨rfl, hS.below⟩
  · have hlt1 : off.tmod n < n := Int.tmod_lt_of_pos _ (by omega)
    have hlt2 : -(n : Int) < off.tmod n := by
      have := Int.tmod_lt_of_pos (-off) (show (0 : Int) < n by omega)
      rw [Int.neg_tmod] at this
      omega
    have hn0 : (0 : Int) < n := by omega
    rcases Classical.em (off.tmod n < 0) with hs | hs
    · obtain ⟨r, hr⟩ : ∃ r : Nat, off.tmod n = (r : Int) - n := ⟨(off.tmod n + n).toNat, by omega⟩
      rw [hr] at hlt1 hlt2 hs
      have hrn : r < n := by omega
      have hsum : IntKind.i64.wrap ((r : Int) - n + n) = r := by rw [Int.sub_add_cancel]; exact IntWalk.i64_in _ (by omega)
      go_wp2_with fail
      replace hr := Lib.hid hr
      clear hlt1 hlt2 hs
      have hT0 : St w w2 S b n (lf n r 0) := ⟨hS.below, hS.s, hS.row.congr (wrow_congr fun j hj => by simp [ones, lf, hj]), hS.ge, hS.ne⟩
      clear hS
      go_loopg [9] n (fun gk k wr => ∃ q : Nat, q ≤ n ∧ gk = n - q ∧ k = .int .i64 q ∧ St w wr S b n (lf n r q))
      case atStart => exact ⟨0, Nat.zero_le _, rfl, rfl, hT0⟩
      case round =>
        clear hT0
        obtain ⟨q, hq, rfl, rfl, hT⟩ := hrel
        rcases Nat.lt_or_ge q n with hlt | hge
        · have hc : wr.cell? ⟨S, 0, none⟩ = some (.slice (some ⟨b, 0, none⟩) n n) := hT.s.cell (i := 0) (by omega)
          have hp := pos_lt hrn hlt
          have hW := wgr_of hT.row hp (y := 4294967296) (lf_pos hrn hlt)
          have hmod : ((q : Int) + r) % n = (pos n r q : Nat) := by rw [← pos_mod hrn hlt]; simp
          generalize hpe : pos n r q = pp at *
          replace hpe := Lib.hid hpe
          go_wp2_with fail
          go_at_call 7
          refine (leave S b pp n wr hn hc hW).mono ?_
          rintro e w' ⟨rfl, g⟩
          have hT2 := hT.put g (y := lf n r (q + 1)) (fun j hj => by rw [← hpe.out]; exact lf_succ hrn hlt hj)
          clear hT g hW hc
          go_wp2_with fail
          go_roundg (n - (q + 1))
          case measure => omega
          case rel => exact ⟨q + 1, by omega, rfl, by go_num, hT2⟩
        · obtain rfl : n = q := by omega
          go_wp2_with fail
          go_loopg [10] n (fun gk i wr => ∃ q : Nat, q ≤ n ∧ gk = q ∧ i = .int .i64 q ∧ St w wr S b n (lf n r n))
          case atStart => exact ⟨n, Nat.le_refl _, rfl, rfl, hT⟩
          case round =>
            clear hT
            obtain ⟨q, hq, rfl, rfl, hT⟩ := hrel
            cases gk with
            | zero =>
              go_wp2_with fail
              go_ret
              exact ⟨rfl, hT.below⟩
            | succ q =>
              have hql : q < n := by omega
              have hc : wr.cell? ⟨S, 0, none⟩ = some (.slice (some ⟨b, 0, none⟩) n n) := hT.s.cell (i := 0) (by omega)
              have hW := wgr_of hT.row hql (y := 0) (lf_all hrn hql)
              go_wp2_with fail
              go_at_call 6
              refine (enter S b q n wr hn hc hW).mono ?_
              rintro e w' ⟨rfl, rfl⟩
              go_wp2_with fail
              go_roundg q
              case measure => omega
              case rel => exact ⟨q, by omega, rfl, by go_num, hT⟩
    · obtain ⟨r, hr⟩ : ∃ r : Nat, off.tmod n = (r : Int) := ⟨(off.tmod n).toNat, by omega⟩
      rw [hr] at hlt1 hlt2 hs
      have hrn : r < n := by omega
      go_wp2_with fail
      replace hr := Lib.hid hr
      clear hlt1 hlt2 hs
      have hT0 : St w w2 S b n (lf n r 0) := ⟨hS.below, hS.s, hS.row.congr (wrow_congr fun j hj => by simp [ones, lf, hj]), hS.ge, hS.ne⟩
      clear hS
      go_loopg [9] n (fun gk k wr => ∃ q : Nat, q ≤ n ∧ gk = n - q ∧ k = .int .i64 q ∧ St w wr S b n (lf n r q))
      case atStart => exact ⟨0, Nat.zero_le _, rfl, rfl, hT0⟩
      case round =>
        clear hT0
        obtain ⟨q, hq, rfl, rfl, hT⟩ := hrel
        rcases Nat.lt_or_ge q n with hlt | hge
        · have hc : wr.cell? ⟨S, 0, none⟩ = some (.slice (some ⟨b, 0, none⟩) n n) := hT.s.cell (i := 0) (by omega)
          have hp := pos_lt hrn hlt
          have hW := wgr_of hT.row hp (y := 4294967296) (lf_pos hrn hlt)
          have hmod : ((q : Int) + r) % n = (pos n r q : Nat) := by rw [← pos_mod hrn hlt]; simp
          generalize hpe : pos n r q = pp at *
          replace hpe := Lib.hid hpe
          go_wp2_with fail
          go_at_call 7
          refine (leave S b pp n wr hn hc hW).mono ?_
          rintro e w' ⟨rfl, g⟩
          have hT2 := hT.put g (y := lf n r (q + 1)) (fun j hj => by rw [← hpe.out]; exact lf_succ hrn hlt hj)
          clear hT g hW hc
          go_wp2_with fail
          go_roundg (n - (q + 1))
          case measure => omega
          case rel => exact ⟨q + 1, by omega, rfl, by go_num, hT2⟩
        · obtain rfl : n = q := by omega
          go_wp2_with fail
          go_loopg [10] n (fun gk i wr => ∃ q : Nat, q ≤ n ∧ gk = q ∧ i = .int .i64 q ∧ St w wr S b n (lf n r n))
          case atStart => exact ⟨n, Nat.le_refl _, rfl, rfl, hT⟩
          case round =>
            clear hT
            obtain ⟨q, hq, rfl, rfl, hT⟩ := hrel
            cases gk with
            | zero =>
              go_wp2_with fail
              go_ret
              exact ⟨rfl, hT.below⟩
            | succ q =>
              have hql : q < n := by omega
              have hc : wr.cell? ⟨S, 0, none⟩ = some (.slice (some ⟨b, 0, none⟩) n n) := hT.s.cell (i := 0) (by omega)
              have hW := wgr_of hT.row hql (y := 0) (lf_all hrn hql)
              go_wp2_with fail
              go_at_call 6
              refine (enter S b q n wr hn hc hW).mono ?_
              rintro e w' ⟨rfl, rfl⟩
              go_wp2_with fail
              go_roundg q
              case measure => omega
              case rel => exact ⟨q, by omega, rfl, by go_num, hT⟩
theorem walk (a0 : Int) (w0 : (Lit.int .i64 a0).wf = true) (a1 : Int) (_w1 : (Lit.int .i64 a1).wf = true) (a2 : Int) (_w2 : (Lit.int .i64 a2).wf = true) (W : World) :
    Calls Try.prog 3 #[.int .i64 a0, .int .i64 a1, .int .i64 a2] W fun e w' => e = .returned (.bool true) ∧ Below W.heap.size W w' := by
  by_cases h : 0 ≤ a0 ∧ a0 ≤ 65536
  · obtain ⟨h1, h2⟩ := h
    obtain ⟨n, rfl⟩ := Int.eq_ofNat_of_zero_le h1
    exact good n a1 a2 W (by omega)
  · by_cases h1 : a0 < 0
    · go_enter Try.func3, Try.ntmps3
      go_wp2_with fail
      go_ret
      exact ⟨rfl, Below.refl _ _⟩
    · have h2 : 65536 < a0 := by omega
      replace h := Lib.hid h
      go_enter Try.func3, Try.ntmps3
      go_wp2_with fail
      go_ret
      exact ⟨rfl, Below.refl _ _⟩
end Go.Proofs.Ytfliibbhdfiloaa.fnSerializerLeaveAnyRotationThenEnterAll
