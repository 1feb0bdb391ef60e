/-
  zzUTF16: the slice holds the UTF-16 units of the decoded runes. Condition: at most 2^20 bytes.
-/
import Derived.Test.YtacekiapcipidaaDoorDecK
import Derived.Test.YtacekiapcipidaaDoorToUtf16
namespace Go.Proofs.YtacekiapcipidaaDoor.KeepU
open Go.RowKit Go.Lib Go.Proofs.YtacekiapcipidaaDoor.Hash Go.Proofs.YtacekiapcipidaaDoor.Dec Go.Proofs.YtacekiapcipidaaDoor.Ints Go.Proofs.YtacekiapcipidaaDoor.ToUtf16 Go.Proofs.YtacekiapcipidaaDoor.DecK

structure Rl (w wr : World) (s : ByteArray) (xs : List Int) (pos : Nat) : Prop where
  own : wr.ownsRow w.heap.size 198 1 (.slice (some ⟨w.heap.size, 0, none⟩) xs.length s.size) xs.length (xs.map (.int .u16))
  below : Below w.heap.size w wr
  lt : w.heap.size < wr.heap.size
  len : xs.length ≤ pos
theorem Rl.drew {w wr : World} {s : ByteArray} {xs : List Int} {pos : Nat} (h : Rl w wr s xs pos) (n pos' : Nat) (hp : pos ≤ pos') : Rl w (wr.drewN n) s xs pos' :=
  ⟨h.own, ⟨h.below.os, h.below.tape, h.below.output, h.below.size, h.below.block⟩, h.lt, Nat.le_trans h.len hp⟩
theorem Rl.app {w w2 w' : World} {s : ByteArray} {xs : List Int} {pos : Nat} (h : Rl w w2 s xs pos) (o : Obj) (y : Int)
    (hown : w'.ownsRow w.heap.size 198 1 (.slice (some ⟨w.heap.size, 0, none⟩) (xs.length + 1) s.size) (xs.length + 1) (xs.map (.int .u16) ++ [.int .u16 y]))
    (hg : (w2.alloc o).grownBy w' (some w.heap.size)) (p2 : Nat) (hl : xs.length + 1 ≤ p2) : Rl w w' s (xs ++ [y]) p2 := by
  have hb := h.lt
  have hsz : (w2.alloc o).heap.size = w2.heap.size + 1 := by simp
  have h1 := hg.size
  refine ⟨by simpa using hown, (h.below.alloc (by omega) _).grown hg (by omega) (fun k e => by cases e; exact Nat.le_refl _), ?_, by simpa using hl⟩
  omega

theorem hi_eq (c : Nat) (h1 : 65536 ≤ c) (h2 : c ≤ 1114111) : hiOf c = 55296 + ((c : Int) - 65536) / 1024 := by
  have e : bits BinOp.and IntKind.i32 (((c : Int) - 65536) / 1024) 1023 = ((c : Int) - 65536) / 1024 := by
    have m := bits_mask .i32 31 (by decide) (fun n h0 h1 => by simp [IntKind.wrap, IntKind.bits, IntKind.signed]; omega) 10 (by decide) (((c : Int) - 65536) / 1024) (by omega) (by omega)
    rw [show ((2 : Int) ^ 10 - 1) = 1023 from by decide] at m
    rw [m]
    omega
  rw [hiOf, e]
  simp [wrap32, IntKind.wrap, IntKind.bits, IntKind.signed]
  omega
theorem lo_eq (c : Nat) (h1 : 65536 ≤ c) (h2 : c ≤ 1114111) : loOf c = 56320 + ((c : Int) - 65536) % 1024 := by
  have e : bits BinOp.and IntKind.i32 ((c : Int) - 65536) 1023 = ((c : Int) - 65536) % 1024 := by
    have m := bits_mask .i32 31 (by decide) (fun n h0 h1 => by simp [IntKind.wrap, IntKind.bits, IntKind.signed]; omega) 10 (by decide) ((c : Int) - 65536) (by omega) (by omega)
    rw [show ((2 : Int) ^ 10 - 1) = 1023 from by decide] at m
    rw [m]
    omega
  rw [loOf, e]
  simp [wrap32, IntKind.wrap, IntKind.bits, IntKind.signed]
  omega

set_option maxRecDepth 20000 in
set_option maxHeartbeats 1000000 in
theorem utf16 (s : ByteArray) (hs : s.size ≤ 1048576) (w : World) : Calls Tryd.prog 15 #[.string s] w fun e w' =>
    e = .returned (.slice (some ⟨w.heap.size, 0, none⟩) (units s s.size 0).length s.size) ∧ w'.ownsRow w.heap.size 198 1 (.slice (some ⟨w.heap.size, 0, none⟩) (units s s.size 0).length s.size) (units s s.size 0).length ((units s s.size 0).map (.int .u16)) ∧ Below w.heap.size w w' := by
  obtain ⟨i0, hi, hz0, hz1, hz2⟩ := info_parts info16
  go_enter Tryd.func15, Tryd.ntmps15
  go_wp2_with (first | (at_make; refine wpList_make_own _ rfl _ _ 167 rfl w.heap.size 198 i0 (.int .u16 0) 1 Tryd.underlying167 hi hz0 hz1 .i64 .i64 _ s.size rfl rfl rfl (by rw [hz2]; omega) (by unfold maxLen; omega) (Nat.le_refl _) ?_) | fail)
  intro w1 hown hgrow
  have hI : w.heap.size < w1.heap.size := by
    rcases hown.2 with ⟨h, _⟩ | ⟨g, cap, cur, h, _, hg, _⟩
    · cases h
    · cases h
      exact (Array.getElem?_eq_some_iff.1 hg).1
  have hR : Rl w w1 s [] 0 := ⟨hown, (Below.refl _ _).grown hgrow (Nat.le_refl _) (fun k h => by cases h), hI, Nat.le_refl _⟩
  clear hown hgrow
  go_wp2_with fail
  go_loopg [3, 4] s.size (fun g v vi wr => ∃ pos : Nat, ∃ xs : List Int, v = .slice (some ⟨w.heap.size, 0, none⟩) xs.length s.size ∧ vi = .int .i64 pos ∧ Rl w wr s xs pos ∧ xs ++ units s g pos = units s s.size 0 ∧ s.size ≤ pos + g ∧ pos ≤ s.size)
  case atStart => exact ⟨0, [], rfl, rfl, hR, rfl, by omega, by omega⟩
  case round =>
    obtain ⟨pos, xs, rfl, rfl, hR', hx, hg, hps⟩ := hrel
    clear hR
    by_cases hp : pos < s.size
    · have hdc := DecK.decode s pos wr hs hp
      have hw := width_pos s pos hp
      have hdf := dec_facts s pos hp
      have hle := decode_le s pos
      obtain ⟨g', rfl⟩ : ∃ g', gk = g' + 1 := ⟨gk - 1, by omega⟩
      rw [units, if_pos hp] at hx
      generalize Utf8.decode s pos = D at hdc hw hle hx hdf
      obtain ⟨c, n⟩ := D
      dsimp only at hdc hw hle hx hdf
      obtain ⟨d1, d2, d3⟩ := hdf
      have hlen := hR'.len
      replace hdc := Lib.hid hdc
      replace hx := Lib.hid hx
      go_wp2_with (first | (go_at_call 18; refine hdc.out.mono ?_) | fail)
      rintro _ _ ⟨rfl, nd, rfl⟩
      have hR2 := hR'.drew nd (pos + n) (by omega)
      generalize wr.drewN nd = w2 at hR2
      clear hdc hR'
      obtain ⟨ci, hci⟩ : ∃ ci : Int, ci = (c : Int) := ⟨_, rfl⟩
      obtain ⟨ni, hni⟩ : ∃ ni : Int, ni = (n : Int) := ⟨_, rfl⟩
      rw [← hci, ← hni]
      have f1 : 0 ≤ ci := by omega
      have f2 : ci ≤ 1114111 := by omega
      have f3 : 1 ≤ ni := by omega
      have f4 : (pos : Int) + ni ≤ s.size := by omega
      by_cases hc : c ≤ 65535
      · have hfit : xs.length + 1 ≤ s.size := by omega
        have hx' : (xs ++ [(c : Int)]) ++ units s g' (pos + n) = units s s.size 0 := by rw [← hx.out, enc, if_pos hc, List.append_assoc]
        rw [← hci] at hx'
        have hcc : ci < 65536 := by omega
        replace hx' := Lib.hid hx'
        replace hci := Lib.hid hci
        replace hni := Lib.hid hni
        clear hx d2 d3 hle hc
        go_wp2_with (first
          | (at_builtin; refine wpList_append_fits _ rfl _ _ 167 rfl w.heap.size 198 i0 1 Tryd.underlying167 hi hz1 w.heap.size xs.length s.size (xs.map (.int .u16)) rfl (hR2.own.alloc _) ⟨w2.heap.size, 0, none⟩ 1 1 [.int .u16 ci] rfl rfl ?c1 ?c2 hfit ?_)
          | fail)
        case c1 =>
          intro j u hj
          match j, hj with
          | 0, hj => simp at hj; subst hj; simp [Addr.add]
        case c2 => intro u hu; simp at hu; subst hu; rfl
        · intro w3 hown hgrow
          have hR3 := hR2.app _ ci hown hgrow (pos + n) (by omega)
          replace hR3 := Lib.hid hR3
          clear hown hgrow hR2
          go_wp2
          go_roundg g'
          case measure => omega
          case rel => exact ⟨pos + n, xs ++ [ci], by simp, by rw [hni.out]; simp, hR3.out, hx'.out, by omega, d1⟩
      · obtain ⟨n4, _⟩ := d2 (by omega)
        have hfit : xs.length + 1 ≤ s.size := by omega
        have hx' : (xs ++ [hiOf c, loOf c]) ++ units s g' (pos + n) = units s s.size 0 := by rw [← hx.out, enc, if_neg hc, List.append_assoc]
        rw [hi_eq c (by omega) (by omega), lo_eq c (by omega) (by omega), ← hci] at hx'
        have hcc : 65536 ≤ ci := by omega
        have j1 : bits .and .i64 (ci - 65536) 1023 = (ci - 65536) % 1024 := by
          have m := bits_mask .i64 63 (by decide) wraps_i64 10 (by decide) (ci - 65536) (by omega) (by omega)
          rw [show ((2 : Int) ^ 10 - 1) = 1023 from by decide] at m
          exact m
        replace hx' := Lib.hid hx'
        replace hci := Lib.hid hci
        replace hni := Lib.hid hni
        clear hx d2 d3 hle hc
        go_wp2_with (first
          | (at_builtin; refine wpList_append_fits _ rfl _ _ 167 rfl w.heap.size 198 i0 1 Tryd.underlying167 hi hz1 w.heap.size (xs).length s.size ((xs).map (.int .u16)) rfl (hR2.own.alloc _) ⟨_, 0, none⟩ 1 1 [.int .u16 (55296 + (ci - 65536) / 1024)] rfl rfl ?c1 ?c2 hfit ?_)
          | fail)
        case c1 =>
          intro j u hj
          match j, hj with
          | 0, hj => simp at hj; subst hj; simp [Addr.add]
        case c2 => intro u hu; simp at hu; subst hu; rfl
        intro w3 hown hgrow
        have hR3 := hR2.app _ (55296 + (ci - 65536) / 1024) hown hgrow (pos + n) (by omega)
        clear hown hgrow hR2
        have hfit : (xs ++ [(55296 + (ci - 65536) / 1024)]).length + 1 ≤ s.size := by simp; omega
        obtain ⟨zs, hzs⟩ : ∃ zs, zs = xs ++ [(55296 + (ci - 65536) / 1024)] := ⟨_, rfl⟩
        rw [← hzs] at hR3 hfit
        have hzl : zs.length = xs.length + 1 := by rw [hzs]; simp
        rw [show xs.length + 1 = zs.length from hzl.symm]
        clear hzl
        replace hzs := Lib.hid hzs
        go_wp2_with (first
          | (at_builtin; refine wpList_append_fits _ rfl _ _ 167 rfl w.heap.size 198 i0 1 Tryd.underlying167 hi hz1 w.heap.size (zs).length s.size ((zs).map (.int .u16)) rfl (hR3.own.alloc _) ⟨_, 0, none⟩ 1 1 [.int .u16 (56320 + (ci - 65536) % 1024)] rfl rfl ?c1 ?c2 hfit ?_)
          | fail)
        case c1 =>
          intro j u hj
          match j, hj with
          | 0, hj => simp at hj; subst hj; simp [Addr.add]
        case c2 => intro u hu; simp at hu; subst hu; rfl
        intro w4 hown hgrow
        have hzl : zs.length = xs.length + 1 := by rw [hzs.out]; simp
        have hR4 := hR3.app _ (56320 + (ci - 65536) % 1024) hown hgrow (pos + n) (by omega)
        clear hzl
        replace hR4 := Lib.hid hR4
        clear hown hgrow hR3
        go_wp2
        go_roundg g'
        case measure => omega
        case rel => exact ⟨pos + n, zs ++ [(56320 + (ci - 65536) % 1024)], by simp, by rw [hni.out]; simp, hR4.out, by rw [hzs.out, ← hx'.out]; simp, by omega, d1⟩
    · rw [units_end s _ pos hp, List.append_nil] at hx
      subst hx
      go_wp2
      go_ret
      exact ⟨rfl, hR'.own, hR'.below⟩
end Go.Proofs.YtacekiapcipidaaDoor.KeepU
