/-
  StringToUTF16: the slice holds the UTF-16 units of the decoded runes. Condition: at most 2^20 bytes.
-/
import Derived.Test.YtacekiapcipidaaDoorDec
import Derived.Test.YtacekiapcipidaaDoorRowsI
import Derived.Lib.OthersKept
namespace Go.Proofs.YtacekiapcipidaaDoor.ToUtf16
open Go.RowKit Go.Lib Go.Proofs.YtacekiapcipidaaDoor.Hash Go.Proofs.YtacekiapcipidaaDoor.Dec Go.Proofs.YtacekiapcipidaaDoor.Ints

theorem info16 : (Tryd.prog.info? 198).map (fun i => (i.zero, i.size, i.bytes)) = some (some (.int .u16 0), 1, 2) := by kernel_rfl

def hiOf (c : Nat) : Int := IntKind.u16.wrap (wrap32 (55296 + bits BinOp.and IntKind.i32 (((c : Int) - 65536) / 1024) 1023))
def loOf (c : Nat) : Int := IntKind.u16.wrap (wrap32 (56320 + bits BinOp.and IntKind.i32 ((c : Int) - 65536) 1023))
def enc (c : Nat) : List Int := if c ≤ 65535 then [(c : Int)] else [hiOf c, loOf c]
def units (s : ByteArray) : Nat → Nat → List Int
  | 0, _ => []
  | g + 1, pos => if pos < s.size then enc (Utf8.decode s pos).1 ++ units s g (pos + (Utf8.decode s pos).2) else []
theorem units_end (s : ByteArray) (g pos : Nat) (hp : ¬ pos < s.size) : units s g pos = [] := by
  cases g with
  | zero => rfl
  | succ g => simp [units, hp]

structure Rel (I : Nat) (w wr : World) (s : ByteArray) (xs : List Int) (pos : Nat) : Prop where
  big : w.heap.size < I
  own : wr.ownsRow w.heap.size 198 1 (.slice (some ⟨w.heap.size, 0, none⟩) xs.length s.size) xs.length (xs.map (.int .u16))
  it : wr.heap[I]? = some (.stringIter s pos)
  below : Below w.heap.size w wr
  len : xs.length ≤ pos

theorem Rel.next {I : Nat} {w wr : World} {s : ByteArray} {xs : List Int} {pos pos' : Nat} (h : Rel I w wr s xs pos) (hp : pos ≤ pos') : Rel I w (wr.iterAt I s pos') s xs pos' := by
  have hb : ∀ k, k ≠ I → (wr.iterAt I s pos').heap[k]? = wr.heap[k]? := fun k hk => by
    show (wr.heap.setIfInBounds I _)[k]? = _
    rw [Array.getElem?_setIfInBounds, if_neg (fun e => hk e.symm)]
  have hsz : (wr.iterAt I s pos').heap.size = wr.heap.size := by simp [World.iterAt]
  refine ⟨h.big, ⟨h.own.1, ?_⟩, Go.Lib.iterAt_heap _ _ _ _ _ h.it, ⟨h.below.os, h.below.tape, h.below.output, by rw [hsz]; exact h.below.size, fun k hk => (hb k (by have := h.big; omega)).trans (h.below.block k hk)⟩, Nat.le_trans h.len hp⟩
  rcases h.own.2 with ⟨e, _⟩ | ⟨g, cap, cur, e, h1, h2, h3⟩
  · cases e
  · cases e
    exact .inr ⟨_, _, cur, rfl, h1, (hb _ (by have := h.big; omega)).trans h2, h3⟩

theorem Rel.app {I : Nat} {w w2 w' : World} {s : ByteArray} {xs : List Int} {pos : Nat} (h : Rel I w w2 s xs pos) (o : Obj) (ys : List Int) (k : Nat) (hk : ys.length = k)
    (hown : w'.ownsRow w.heap.size 198 1 (.slice (some ⟨w.heap.size, 0, none⟩) (xs.length + k) s.size) (xs.length + k) (xs.map (.int .u16) ++ ys.map (.int .u16)))
    (hg : (w2.alloc o).grownBy w' (some w.heap.size)) (hl : xs.length + k ≤ pos) : Rel I w w' s (xs ++ ys) pos := by
  subst hk
  have hI : I < w2.heap.size := (Array.getElem?_eq_some_iff.1 h.it).1
  have hb := h.big
  have hsz : (w2.alloc o).heap.size = w2.heap.size + 1 := by simp
  refine ⟨h.big, ?_, ?_, (h.below.alloc (by omega) _).grown hg (by omega) (fun k e => by cases e; exact Nat.le_refl _), by simpa using hl⟩
  · simpa using hown
  · rw [hg.block I (by omega) (fun e => by cases e; omega), Below.heap_alloc _ _ _ hI]
    exact h.it

set_option maxRecDepth 20000 in
set_option maxHeartbeats 1000000 in
theorem toUtf16 (s : ByteArray) (hs : s.size ≤ 1048576) (w : World) : Calls Tryd.prog 17 #[.string s] w fun e w' =>
    e = .returned (.slice (some ⟨w.heap.size, 0, none⟩) (units s s.size 0).length s.size) ∧ w'.ownsRow w.heap.size 198 1 (.slice (some ⟨w.heap.size, 0, none⟩) (units s s.size 0).length s.size) (units s s.size 0).length ((units s s.size 0).map (.int .u16)) ∧ Below w.heap.size w w' := by
  obtain ⟨i0, hi, hz0, hz1, hz2⟩ := info_parts info16
  go_enter Tryd.func17, Tryd.ntmps17
  go_wp2_with (first | (at_make; refine wpList_make_own _ rfl _ _ 167 rfl w.heap.size 198 i0 (.int .u16 0) 1 Tryd.underlying167 hi hz0 hz1 .i64 .i64 _ s.size rfl rfl rfl (by rw [hz2]; omega) (by unfold maxLen; omega) (Nat.le_refl _) ?_) | fail)
  intro w1 hown hgrow
  have hI : w.heap.size < w1.heap.size := by
    rcases hown.2 with ⟨h, _⟩ | ⟨g, cap, cur, h, _, hg, _⟩
    · cases h
    · cases h
      exact (Array.getElem?_eq_some_iff.1 hg).1
  have hR : Rel w1.heap.size w (w1.iter s 0) s [] 0 :=
    ⟨hI, hown.alloc _, World.iter_heap _ _ _, ((Below.refl _ _).grown hgrow (Nat.le_refl _) (fun k h => by cases h)).alloc (Nat.le_of_lt hI) _, Nat.le_refl _⟩
  clear hown hgrow
  generalize hIe : w1.heap.size = I at hI hR
  go_wp2_with fail
  go_loopg [3] s.size (fun g v wr => ∃ pos : Nat, ∃ xs : List Int, v = .slice (some ⟨w.heap.size, 0, none⟩) xs.length s.size ∧ Rel I w wr s xs pos ∧ xs ++ units s g pos = units s s.size 0 ∧ s.size ≤ pos + g)
  case atStart => exact ⟨0, [], rfl, hR, rfl, by omega⟩
  case round =>
    obtain ⟨pos, xs, rfl, hR', hx, hg⟩ := hrel
    clear hR hIe
    by_cases hp : pos < s.size
    · have hnx := fun ty => run_next_any_at (P := Tryd.prog) wr I s pos ty hR'.it hp
      have hw := width_pos s pos hp
      have hdf := dec_facts s pos hp
      have hle := decode_le s pos
      obtain ⟨g', rfl⟩ : ∃ g', gk = g' + 1 := ⟨gk - 1, by omega⟩
      rw [units, if_pos hp] at hx
      generalize Utf8.decode s pos = D at hnx hw hle hx hdf
      obtain ⟨c, n⟩ := D
      dsimp only at hnx hw hle hx hdf
      obtain ⟨d1, d2, d3⟩ := hdf
      have hR2 := hR'.next (pos' := pos + n) (by omega)
      have hlen := hR'.len
      generalize wr.iterAt I s (pos + n) = w2 at hR2 hnx
      by_cases hc : c ≤ 65535
      · have hfit : xs.length + 1 ≤ s.size := by omega
        have hx' : (xs ++ [(c : Int)]) ++ units s g' (pos + n) = units s s.size 0 := by rw [← hx, enc, if_pos hc, List.append_assoc]
        replace hx' := Lib.hid hx'
        clear hx
        go_wp2_with (first
          | (at_builtin; refine wpList_append_fits _ rfl _ _ 167 rfl w.heap.size 198 i0 1 Tryd.underlying167 hi hz1 w.heap.size xs.length s.size (xs.map (.int .u16)) rfl (hR2.own.alloc _) ⟨w2.heap.size, 0, none⟩ 1 1 [.int .u16 (c : Int)] rfl rfl ?c1 ?c2 hfit ?_)
          | go_in)
        case c1 =>
          intro j u hj
          match j, hj with
          | 0, hj => simp at hj; subst hj; simp [Addr.add]
        case c2 => intro u hu; simp at hu; subst hu; rfl
        · intro w3 hown hgrow
          have hR3 := hR2.app _ [(c : Int)] 1 rfl hown hgrow (by omega)
          replace hR3 := Lib.hid hR3
          clear hown hgrow hR2 hR'
          go_wp2
          go_roundg g'
          case measure => omega
          case rel => exact ⟨pos + n, xs ++ [(c : Int)], by simp, hR3.out, hx'.out, by omega⟩
      · obtain ⟨n4, _⟩ := d2 (by omega)
        have hfit : xs.length + 2 ≤ s.size := by omega
        have hx' : (xs ++ [hiOf c, loOf c]) ++ units s g' (pos + n) = units s s.size 0 := by rw [← hx, enc, if_neg hc, List.append_assoc]
        replace hx' := Lib.hid hx'
        clear hx
        go_wp2_with (first
          | (at_builtin; refine wpList_append_fits _ rfl _ _ 167 rfl w.heap.size 198 i0 1 Tryd.underlying167 hi hz1 w.heap.size xs.length s.size (xs.map (.int .u16)) rfl (hR2.own.alloc _) ⟨w2.heap.size, 0, none⟩ 2 2 [.int .u16 (hiOf c), .int .u16 (loOf c)] rfl rfl ?c1 ?c2 hfit ?_)
          | go_in)
        case c1 =>
          intro j u hj
          match j, hj with
          | 0, hj => simp at hj; subst hj; simp [Addr.add, hiOf]
          | 1, hj => simp at hj; subst hj; simp [Addr.add, loOf]
        case c2 =>
          intro u hu
          simp at hu
          rcases hu with rfl | rfl <;> rfl
        · intro w3 hown hgrow
          have hR3 := hR2.app _ [hiOf c, loOf c] 2 rfl hown hgrow (by omega)
          replace hR3 := Lib.hid hR3
          clear hown hgrow hR2 hR'
          go_wp2
          go_roundg g'
          case measure => omega
          case rel => exact ⟨pos + n, xs ++ [hiOf c, loOf c], by simp, hR3.out, hx'.out, by omega⟩
    · have hnx := fun ty => run_next_end_at (P := Tryd.prog) wr I s pos ty hR'.it hp
      rw [units_end s _ pos hp, List.append_nil] at hx
      subst hx
      go_wp2
      go_ret
      exact ⟨rfl, hR'.own, hR'.below⟩
end Go.Proofs.YtacekiapcipidaaDoor.ToUtf16
