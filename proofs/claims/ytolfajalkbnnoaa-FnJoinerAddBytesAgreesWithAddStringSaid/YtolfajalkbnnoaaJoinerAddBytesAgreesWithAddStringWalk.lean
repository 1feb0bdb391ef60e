/-
  The walk of FnJoinerAddBytesAgreesWithAddString: it returns true for every list of byte parts. No condition.
-/
import Derived.Test.YtolfajalkbnnoaaByteRows
namespace Go.Proofs.Ytolfajalkbnnoaa.fnJoinerAddBytesAgreesWithAddString
open Go.RowKit Go.WideShapes Go.ChangeAt Go.ChangeShapes Go.Proofs.Ytolfajalkbnnoaa.Ints Go.Proofs.Ytolfajalkbnnoaa.Join

def SomeBool (w : World) (e : Ending) (w' : World) : Prop := ∃ r : Bool, e = .returned (.bool r) ∧ w = w'
theorem bytes (o : Option Addr) (n cap : Nat) (A : Nat → Option Addr) (L C : Nat → Nat) (w : World) (hI : HeadsAt w o n A L C) (hf : ∀ i, i < n → L i ≤ maxLen) (hn0 : n ≤ maxLen) :
    Calls Try.prog 6 #[.slice o n cap] w (SomeBool w) := by
  have hm1 : maxLen = 9223372036854775807 := rfl
  rw [hm1] at hf hn0
  by_cases hn : 1048576 < n
  · go_enter Try.func6, Try.ntmps6
    go_wp2_with fail
    go_ret
    exact ⟨_, rfl, rfl⟩
  go_enter Try.func6, Try.ntmps6
  go_wp2_with fail
  go_loopg [3, 4] n (fun gk t i wr => w = wr ∧ ∃ r T : Nat, r ≤ n ∧ gk = n - r ∧ i = .int .i64 r ∧ t = .int .i64 T ∧ T ≤ 1048576)
  case atStart => exact ⟨rfl, 0, n, Nat.zero_le _, rfl, rfl, rfl, by omega⟩
  case round =>
    obtain ⟨rfl, r, T, hr, rfl, rfl, rfl, hTl⟩ := hrel
    rcases Nat.lt_or_ge r n with hlt | hge
    · have hA := hI
      rcases hA with h0 | ⟨b, off, rfl, _, hc⟩
      · omega
      have g1 := hc r hlt
      have hfr := hf r hlt
      clear hc
      generalize L r = l at *
      by_cases h1 : 1048576 < l
      · go_wp2_with fail
        go_ret
        exact ⟨_, rfl, rfl⟩
      have j1 : IntKind.i64.wrap ((T : Int) + (l : Int)) = (T : Int) + (l : Int) := by simp [IntKind.wrap, IntKind.bits, IntKind.signed]; omega
      by_cases h2 : (1048576 : Int) < (T : Int) + (l : Int)
      · go_wp2_with fail
        go_ret
        exact ⟨_, rfl, rfl⟩
      go_wp2_with fail
      go_roundg (n - (r + 1))
      case measure => omega
      case rel => exact ⟨rfl, r + 1, T + l, by omega, rfl, rfl, by simp, by omega⟩
    · have hrn : r = n := by omega
      subst hrn
      go_wp2_with fail
      go_ret
      exact ⟨_, rfl, rfl⟩
theorem jn_new (w : World) : Jn w.heap.size (w.alloc (.cells #[.slice none 0 0, .slice none 0 0, .int .u32 0, .int .u8 0] 30)) w.heap.size [] [] 0 0 := by
  obtain ⟨bs, hT, hJ⟩ := made_new w
  have : bs = [] := List.map_eq_nil_iff.1 hT
  subst this
  exact hJ
theorem new_cell (w : World) (i : Nat) (hi : i < 2) : (w.alloc (.cells #[.slice none 0 0, .slice none 0 0, .int .u32 0, .int .u8 0] 30)).cell? ⟨w.heap.size, i, none⟩ = some (.slice none 0 0) := by
  rw [World.cell?_alloc_mark]
  match i, hi with
  | 0, _ | 1, _ => rfl
def IsJ (w : World) (J : Nat) : Prop := ∃ cur fr, w.heap[J]? = some (.cells cur 30 fr)
theorem isJ {B J : Nat} {w : World} {ss : List (ByteArray × Nat)} {bs : List Bt} {L : Nat} {c : Int} (h : Jn B w J ss bs L c) : IsJ w J := by
  obtain ⟨sl, bl, hC⟩ := h.ex
  obtain ⟨c, hc, _⟩ := hC.row
  exact ⟨c, _, hc⟩
/-- A joiner of strings alone stands while another is given bytes. -/
theorem keepS {B J J1 : Nat} {w w' : World} {ss : List (ByteArray × Nat)} {L : Nat} {c : Int} (h : Jn B w J ss [] L c) (hn : w.cell? ⟨J, 1, none⟩ = some (.slice none 0 0)) (hj : IsJ w J1) (hne : J1 ≠ J) (k : Kp J1 51 w w') :
    Jn B w' J ss [] L c ∧ w'.cell? ⟨J, 1, none⟩ = some (.slice none 0 0) := by
  obtain ⟨sl, bl, hC⟩ := h.ex
  have e := (hC.row.cell (i := 1) (by omega)).symm.trans hn
  obtain rfl : bl = .slice none 0 0 := by simpa [jrow] using e
  obtain ⟨cu, hc, hcr⟩ := hC.row
  obtain ⟨cj, fj, hcj⟩ := hj
  have kb := k J cu _ _ hc (by decide) (Ne.symm hne)
  have hrow : w'.rowIs J 30 4 (jrow sl (.slice none 0 0) L c) := ⟨cu, kb.trans hc, hcr⟩
  refine ⟨⟨⟨sl, .slice none 0 0, hrow, own_keep hC.o1 (fun g cur hg => k g cur _ _ hg (by decide) (cells_ne hg hcj (by decide))), ⟨rfl, .inl ⟨rfl, rfl⟩⟩, fun p hp => by cases hp⟩, h.ge, h.fitS, h.fitB, h.lL, h.lS, h.lB⟩, ?_⟩
  exact hrow.cell (i := 1) (by omega)
/-- A joiner of bytes alone stands while another is given strings. -/
theorem keepB {B J J1 : Nat} {w w' : World} {bs : List Bt} {L : Nat} {c : Int} (h : Jn B w J [] bs L c) (hn : w.cell? ⟨J, 0, none⟩ = some (.slice none 0 0)) (hj : IsJ w J1) (hne : J1 ≠ J) (k : Kp J1 53 w w') :
    Jn B w' J [] bs L c ∧ w'.cell? ⟨J, 0, none⟩ = some (.slice none 0 0) := by
  obtain ⟨sl, bl, hC⟩ := h.ex
  have e := (hC.row.cell (i := 0) (by omega)).symm.trans hn
  obtain rfl : sl = .slice none 0 0 := by simpa [jrow] using e
  obtain ⟨cu, hc, hcr⟩ := hC.row
  obtain ⟨cj, fj, hcj⟩ := hj
  have kb := k J cu _ _ hc (by decide) (Ne.symm hne)
  have hrow : w'.rowIs J 30 4 (jrow (.slice none 0 0) bl L c) := ⟨cu, kb.trans hc, hcr⟩
  refine ⟨⟨⟨.slice none 0 0, bl, hrow, ⟨rfl, .inl ⟨rfl, rfl⟩⟩, own_keep hC.o2 (fun g cur hg => k g cur _ _ hg (by decide) (cells_ne hg hcj (by decide))), fun p hp => (hC.dat p hp).keep (fun b cur fr hg => k b cur _ _ hg (by decide) (cells_ne hg hcj (by decide)))⟩, h.ge, h.fitS, h.fitB, h.lL, h.lS, h.lB⟩, ?_⟩
  exact hrow.cell (i := 0) (by omega)
/-- The items of r parts. -/
def its (D : Nat → List UInt8) (L : Nat → Nat) : Nat → List (List UInt8 × Nat)
  | 0 => []
  | r + 1 => its D L r ++ [(D r, sumL L r)]
theorem its_len (D : Nat → List UInt8) (L : Nat → Nat) : ∀ r, (its D L r).length = r
  | 0 => rfl
  | r + 1 => by simp [its, its_len D L r]
theorem its_one (D : Nat → List UInt8) (L : Nat → Nat) (n : Nat) (hD : ∀ i, i < n → (D i).length = L i) (d : List UInt8) (o : Nat) (h : its D L n = [(d, o)]) : o = 0 ∧ sumL L n = d.length := by
  have h1 := its_len D L n
  rw [h] at h1
  have h1' : n = 1 := by simpa using h1.symm
  subst h1'
  simp [its, sumL] at h
  obtain ⟨rfl, rfl⟩ := h
  exact ⟨rfl, by simp [sumL, hD 0 (by omega)]⟩
def strB (l : List UInt8) : ByteArray := ⟨l.toArray⟩
theorem nums (l : List UInt8) : strOfNums (l.map fun b => (b.toNat : Int)) = strB l := by
  unfold strOfNums strB
  congr 2
  rw [List.map_map]
  conv => rhs; rw [← List.map_id l]
  congr 1
  funext b
  simp
theorem getI (l : List UInt8) (i : Nat) : (l.map fun b => (b.toNat : Int)).getD i 0 = ((l.getD i 0).toNat : Int) := by
  by_cases h : i < l.length
  · simp [List.getD, h]
  · simp [List.getD, h]
theorem conv (a : Option Addr) (n cap : Nat) (l : List UInt8) (w : World) (h : BytesAt w a n l) : (convert 32 9 (.slice a n cap)).run Try.prog w = .ok (.string (strB l)) w := by
  have hl := h.1
  rcases h.2 with h0 | ⟨b, off, rfl, _, hc⟩
  · subst h0
    have : l = [] := List.eq_nil_of_length_eq_zero hl
    subst this
    cases a with
    | none => rw [run_convert_bytes_nil w 32 5 Try.underlying32 Try.underlying5 0 cap 9 Try.underlying9]; rfl
    | some ad =>
      have hl := run_loadCells_list (P := Try.prog) w ad [] (fun j v hj => by simp at hj)
      rw [run_convert_bytes_string w 32 9 5 _ 0 cap Try.underlying32 Try.underlying5 Try.underlying9, run_bytesToString w ad 0 cap [] hl]
      rfl
  · rw [run_convert_bytes_arg w 32 5 Try.underlying32 Try.underlying5 b off n cap (l.map fun b => (b.toNat : Int)) (by simpa using hl) (fun i hi => by rw [hc i hi, getI]) 9 Try.underlying9, nums]
theorem strB_size (l : List UInt8) : (strB l).size = l.length := by simp [strB, ByteArray.size]
theorem strB_data (l : List UInt8) : (strB l).data.toList = l := rfl
theorem lenJ {B J : Nat} {ss : List (ByteArray × Nat)} {bs : List Bt} {L : Nat} {c : Int} {w : World} (h : Jn B w J ss bs L c) : Calls Try.prog 11 #[.pointer (some ⟨J, 0, none⟩)] w fun e w' => e = .returned (.int .u32 L) ∧ w = w' := length B J ss bs L c w h
set_option maxRecDepth 100000 in
set_option maxHeartbeats 4000000 in
theorem main (o : Option Addr) (n cap : Nat) (A : Nat → Option Addr) (L C : Nat → Nat) (F : Nat → Nat → Int) (w : World) (hI : HeadsAt w o n A L C) (hR : ∀ r, r < n → ByteRow w (A r) (L r) (C r) (F r)) (hn0 : n ≤ maxLen) (h0 : o = none → n = 0 ∧ cap = 0) :
    Calls Try.prog 3 #[.slice o n cap] w fun e w' => e = .returned (.bool true) ∧ Below w.heap.size w w' := by
  have hf : Hid (∀ i, i < n → L i ≤ maxLen) := Lib.hid (fun i hi => (hR i hi).le)
  replace hR := Lib.hid hR
  replace h0 := Lib.hid h0
  have hm1 : maxLen = 9223372036854775807 := rfl
  have hn1 := hn0
  rw [hm1] at hn1
  replace hn0 := Lib.hid hn0
  clear hm1
  go_enter Try.func3, Try.ntmps3
  go_wp2_with fail
  go_at_call 6
  refine (bytes o n cap A L C w hI hf.out hn0.out).mono ?_
  rintro e w' ⟨r, rfl, rfl⟩
  cases r with
  | false =>
    go_wp2_with fail
    go_ret
    exact ⟨rfl, Below.refl _ _⟩
  | true =>
    by_cases hn : 65536 < n
    · go_wp2_with fail
      go_ret
      exact ⟨rfl, Below.refl _ _⟩
    go_wp2_with fail
    go_at_call 7
    refine (size o n cap A L C w hI hf.out (by omega)).mono ?_
    rintro e w' ⟨t, rfl, rfl, ht, hsum⟩
    replace hsum := Lib.hid hsum
    by_cases hbig : 1048576 < t
    · go_wp2_with fail
      go_ret
      exact ⟨rfl, Below.refl _ _⟩
    have hs := Lib.hid (hsum.out (by omega))
    clear hn1
    go_wp2_with fail
    go_at_call 8
    refine (cloneL o n cap A L C F w (by omega) hI hR.out hs.out h0.out).mono ?_
    rintro e w1 ⟨p, A2, rfl, hH, hD, b1⟩
    replace hI := Lib.hid hI
    have hDl : Hid (∀ i, i < n → (bl (F i) (L i)).length = L i) := Lib.hid (fun i hi => bl_len _ _)
    generalize (fun i => bl (F i) (L i)) = D at hD hDl
    replace hDl : Hid (∀ i, i < n → (D i).length = L i) := Lib.hid (fun i hi => (hD i hi).1)
    go_wp2_with fail
    have ja := jn_new w1
    have ca := new_cell w1 0 (by omega)
    have ba : Below w1.heap.size w1 (w1.alloc (.cells #[.slice none 0 0, .slice none 0 0, .int .u32 0, .int .u8 0] 30)) := (Below.refl _ _).alloc (Nat.le_refl _) _
    have sa : w1.heap.size + 1 = (w1.alloc (.cells #[.slice none 0 0, .slice none 0 0, .int .u32 0, .int .u8 0] 30)).heap.size := by simp
    generalize (w1.alloc (.cells #[.slice none 0 0, .slice none 0 0, .int .u32 0, .int .u8 0] 30)) = wa at ja ca ba sa ⊢
    have jb := jn_new wa
    have cb := new_cell wa 1 (by omega)
    have bb : Below wa.heap.size wa (wa.alloc (.cells #[.slice none 0 0, .slice none 0 0, .int .u32 0, .int .u8 0] 30)) := (Below.refl _ _).alloc (Nat.le_refl _) _
    rw [← sa] at jb cb bb
    generalize (wa.alloc (.cells #[.slice none 0 0, .slice none 0 0, .int .u32 0, .int .u8 0] 30)) = wb at jb cb bb ⊢
    have ja2 := ja.below (w' := wb) (by rw [← sa]; exact bb)
    have ca2 : wb.cell? ⟨w1.heap.size, 0, none⟩ = some (.slice none 0 0) := (bb.cell (p := ⟨w1.heap.size, 0, none⟩) (by show w1.heap.size < w1.heap.size + 1; omega)).trans ca
    have b2 : Below w1.heap.size w1 wb := ba.trans (bb.mono (by omega))
    clear ja ca ba sa bb wa
    generalize hN : w1.heap.size = N at *
    replace hN := Lib.hid hN
    go_loopg [5] n (fun gk i wr => ∃ (r : Nat) (bs : List Bt) (ss : List (ByteArray × Nat)) (c : Int), r ≤ n ∧ gk = n - r ∧ i = .int .i64 r ∧ Jn N wr N [] bs (sumL L r) c ∧ Jn (N + 1) wr (N + 1) ss [] (sumL L r) c ∧ absB bs = its D L r ∧ absS ss = its D L r ∧
      wr.cell? ⟨N, 0, none⟩ = some (.slice none 0 0) ∧ wr.cell? ⟨N + 1, 1, none⟩ = some (.slice none 0 0) ∧ Below N w1 wr)
    case atStart => exact ⟨0, [], [], 0, Nat.zero_le _, rfl, rfl, ja2, jb, rfl, rfl, ca2, cb, b2⟩
    case round =>
      clear ja2 jb ca2 cb b2
      obtain ⟨r, bs, ss, c, hr, rfl, rfl, ja, jb, eb, es, ca, cb, b2⟩ := hrel
      replace eb := Lib.hid eb
      replace es := Lib.hid es
      rcases Nat.lt_or_ge r n with hlt | hge
      · rcases hH with h1 | ⟨bk, off, rfl, hbk, hc⟩
        · omega
        have g1 : wr.cell? ⟨bk, off + r, none⟩ = some (.slice (A2 r) (L r) (L r)) := (b2.cell (p := ⟨bk, off + r, none⟩) (by show bk < N; rw [← hN.out]; exact hbk)).trans (hc r hlt)
        have dr : BytesAt wr (A2 r) (L r) (D r) := (hD r hlt).keep (fun b cur fr hg => b2.block b (by rw [← hN.out]; exact (Array.getElem?_eq_some_iff.1 hg).1))
        have hsz : Hid (sumL L r + L r ≤ 2097152) := Lib.hid (by have h1 := sumL_mono L n (r + 1) hlt; have h2 : sumL L (r + 1) = sumL L r + L r := rfl; have := hs.out; omega)
        have lb : Hid (bs.length = r) := Lib.hid (by rw [← its_len D L r, ← eb.out]; simp [absB])
        have ls : Hid (ss.length = r) := Lib.hid (by rw [← its_len D L r, ← es.out]; simp [absS])
        have lD := Lib.hid (hDl.out r hlt)
        replace hc := Lib.hid hc
        replace hD := Lib.hid hD
        go_wp2_with fail
        go_at_call 9
        refine (addBk N N [] bs (sumL L r) c wr (A2 r) (L r) (L r) (D r) dr ja hsz.out (by have := lb.out; omega)).mono ?_
        rintro e w2 ⟨rfl, ja', k2, e2⟩
        obtain ⟨jb', cb'⟩ := keepS jb cb (isJ ja) (by omega) k2.kp
        have ca' := e2.out.trans ca
        have b3 := b2.trans k2.bel
        have g2 : w2.cell? ⟨bk, off + r, none⟩ = some (.slice (A2 r) (L r) (L r)) := (b3.cell (p := ⟨bk, off + r, none⟩) (by show bk < N; rw [← hN.out]; exact hbk)).trans (hc.out r hlt)
        have dr2 : BytesAt w2 (A2 r) (L r) (D r) := (hD.out r hlt).keep (fun b cur fr hg => b3.block b (by rw [← hN.out]; exact (Array.getElem?_eq_some_iff.1 hg).1))
        have hcv := conv (A2 r) (L r) (L r) (D r) w2 dr2
        clear g1 dr ja jb ca cb b2 k2 e2
        go_wp2_with fail
        go_at_call 10
        refine (addSk (N + 1) (N + 1) ss [] (sumL L r) c w2 (strB (D r)) jb' (by rw [strB_size, lD.out]; exact hsz.out) (by have := ls.out; omega)).mono ?_
        rintro e w3 ⟨rfl, jb2, k3, e3⟩
        obtain ⟨ja2, ca2⟩ := keepB ja' ca' (isJ jb') (by omega) k3.kp
        have cb2 := e3.out.trans cb'
        have b4 := b3.trans (k3.bel.mono (Nat.le_succ N))
        rw [strB_size, lD.out, strB_data] at jb2
        have hsucc : sumL L (r + 1) = sumL L r + L r := rfl
        rw [← hsucc] at ja2 jb2
        have ebs : Hid (absB (bs ++ [⟨A2 r, L r, L r, sumL L r, D r⟩]) = its D L (r + 1)) := Lib.hid (by simp only [its, ← eb.out]; simp [absB])
        have ess : Hid (absS (ss ++ [(strB (D r), sumL L r)]) = its D L (r + 1)) := Lib.hid (by simp only [its, ← es.out]; simp [absS, strB_data])
        clear ja' jb' ca' cb' g2 dr2 hcv k3 e3 b3 hsucc
        go_wp2_with fail
        go_at_call 11
        refine (lenJ ja2).mono ?_
        rintro e w4 ⟨rfl, rfl⟩
        go_wp2_with fail
        go_at_call 11
        refine (lenJ jb2).mono ?_
        rintro e w4 ⟨rfl, rfl⟩
        go_wp2_with fail
        go_at_call 12
        refine (lastByte _ _ _ _ _ _ _ ja2).mono ?_
        rintro e w4 ⟨rfl, rfl⟩
        go_wp2_with fail
        go_at_call 12
        refine (lastByte _ _ _ _ _ _ _ jb2).mono ?_
        rintro e w4 ⟨rfl, rfl⟩
        go_wp2_with fail
        go_roundg (n - (r + 1))
        case measure => omega
        case rel => exact ⟨r + 1, _, _, _, by omega, rfl, rfl, ja2, jb2, ebs.out, ess.out, ca2, cb2, b4⟩
      · have hrn : r = n := by omega
        subst hrn
        go_wp2_with fail
        go_at_call 14
        have lone := Lib.hid (its_one D L r hDl.out)
        have ef := doneF_comm (its D L r) (sumL L r) (fun d o he => lone.out d o he)
        have l1 := ja.len
        rw [eb.out] at l1
        change (doneF [] (its D L r) (sumL L r)).length ≤ 2097152 at l1
        refine (done N N [] bs (sumL L r) c wr ja (fun _ x hx => (lone.out x.d x.o (by rw [← eb.out, hx]; rfl)).1)).mono ?_
        rintro e w2 ⟨p1, n1, c1, rfl, h1, B1⟩
        rw [eb.out] at h1
        have jb2 := jb.below B1
        go_wp2_with fail
        go_at_call 14
        refine (done (N + 1) (N + 1) ss [] (sumL L r) c w2 jb2 (fun _ x hx => by cases hx)).mono ?_
        rintro e w3 ⟨p2, n2, c2, rfl, h2, B2⟩
        rw [es.out] at h2
        change BytesAt w3 p2 n2 (doneF (its D L r) [] (sumL L r)) at h2
        change BytesAt w2 p1 n1 (doneF [] (its D L r) (sumL L r)) at h1
        rw [ef] at h1 l1
        have h3 : BytesAt w3 p1 n1 _ := h1.keep (fun b cur fr hg => B2.block b (Array.getElem?_eq_some_iff.1 hg).1)
        obtain rfl : n1 = n2 := h1.1.symm.trans h2.1
        have l2 : Hid (n1 ≤ 2097152) := Lib.hid (by rw [← h1.1]; exact l1)
        have B3 : Below w.heap.size w w3 := b1.trans (Below.mono (b2.trans (Below.mono (B1.trans (B2.mono B1.size)) (by rw [← hN.out]; exact b2.size))) (by rw [← hN.out]; exact b1.size))
        replace h1 := Lib.hid h1
        replace h2 := Lib.hid h2
        replace h3 := Lib.hid h3
        clear ja jb jb2 ca cb ef l1
        go_wp2_with fail
        go_at_call 13
        refine (eqBytes p1 p2 n1 c1 c2 _ w3 h3.out h2.out l2.out).mono ?_
        rintro e w4 ⟨rfl, B4⟩
        go_wp2_with fail
        go_ret
        exact ⟨rfl, B3.trans (B4.mono B3.size)⟩
set_option maxRecDepth 100000 in
theorem walk (W : World) {H : Type} {enc : TypeId × Value → H} {base : Nat} {p0 : List MemPlace} (v0 : Value) (d0 : DataW H) (k0 : Value.okWide Try.prog W .any base 22 v0) (h0 : DataW.Trod enc Try.prog W 0 (fun _ => true) true 22 v0 d0 p0) :
    Calls Try.prog 3 #[v0] W fun e w' => e = .returned (.bool true) ∧ Below W.heap.size W w' := by
  obtain ⟨o, n, c, A, L, C, F, rfl, x1, x2, hH, hR, z0⟩ := openByteRows Try.underlying22 Try.underlying32 Try.underlying5 (by kernel_rfl) (by kernel_rfl) k0 h0
  exact main o n c A L C F W hH hR (Nat.le_trans x1 x2) z0
end Go.Proofs.Ytolfajalkbnnoaa.fnJoinerAddBytesAgreesWithAddString
