/-
  internalQuote between apostrophes: one piece a rune. Condition: a valid text of at most 2^20 bytes.
-/
import Derived.Test.YtgeijelkojgapaaQuoN
namespace Go.Proofs.Ytgeijelkojgapaa.QuoI
open Go.RowKit Go.Lib Go.ChangeShapes Go.WideShapes Go.ChangeAt Go.Proofs.Ytgeijelkojgapaa.U8 Go.Proofs.Ytgeijelkojgapaa.QuoD Go.Proofs.Ytgeijelkojgapaa.QuoM Go.Proofs.Ytgeijelkojgapaa.QuoL Go.Proofs.Ytgeijelkojgapaa.QuoP Go.Proofs.Ytgeijelkojgapaa.QuoA Go.Proofs.Ytgeijelkojgapaa.QuoZ Go.Proofs.Ytgeijelkojgapaa.QuoN

theorem ext_size (s : ByteArray) (p : Nat) (_hp : p ≤ s.size) : (s.extract p s.size).size = s.size - p := by simp
theorem wtfAt (s : ByteArray) (p : Nat) (w : World) (hs : s.size ≤ 1048576) (hp : p < s.size) (hg : GoodR s p) : Calls Try.prog 26 #[.string (s.extract p s.size)] w (DecR (Utf8.decode s p) w) := by
  rw [← sub_dec]
  exact wtf _ w (by rw [ext_size _ _ (by omega)]; omega) (by rw [ext_size _ _ (by omega)]; omega) (sub_good hg)
theorem own_new2 (W0 w : World) (B : Nat) (hB : B ≤ w.heap.size) (hb : Below B W0 w) (c : Nat) (cs : Array Value) (hc : cs.size = c) (hm : c ≤ maxLen) : OwnBuf B 5 (.slice (some ⟨w.heap.size, 0, none⟩) 0 c) 0 [] W0 (w.alloc (.cells cs 5)) :=
  ⟨⟨rfl, .inr ⟨w.heap.size, c, cs, (0, 0), rfl, hB, heap_alloc_new _ _, Nat.le_refl _, Nat.zero_le _, hm, by simpa using hc, by simp⟩⟩, hb.alloc hB _, by simp; omega⟩
def Est (k : Nat) (m : Int) : Prop := 2 ≤ m ∧ m ≤ 2 + 12 * (k : Int)
theorem Est.step {k : Nat} {m m' : Int} (h : Est k m) (h1 : m ≤ m') (h2 : m' ≤ m + 12) : Est (k + 1) m' := by
  unfold Est at *
  omega
/-- A run of runes that go as they are, appended at once. -/
theorem QB.run {a : Bool} {s : ByteArray} {k n : Nat} {v' : Value} {B : Nat} {w w' : World} (hle : ps s (k + n) ≤ s.size) (h : ∀ j, j < n → pr a (Utf8.decode s (ps s (k + j))).1 = true) (t : ByteArray) (ht : t = s.extract (ps s k) (ps s (k + n)))
    (hb : OwnBuf B 5 v' (1 + (quo a s k).length + t.size) ((.int .u8 39 :: cells8 (quo a s k)) ++ strCells t) w w') : QB a s (k + n) v' B w w' := by
  subst ht
  have hm := ps_mono s k (k + n) (by omega)
  unfold QB
  rw [quo_run a s k n h]
  rw [strCells_ext s _ _ hm hle, show (s.extract (ps s k) (ps s (k + n))).size = ps s (k + n) - ps s k from by simp; omega] at hb
  simpa [cells8, raw_len, Nat.add_assoc] using hb
set_option maxRecDepth 20000 in
set_option maxHeartbeats 16000000 in
theorem inner (a : Bool) (s : ByteArray) (w : World) (hs : s.size ≤ 1048576) (hV : Valid s) : Calls Try.prog 19 #[.string s, .bool a, .int .u8 39] w (Quoted a s w) := by
  obtain ⟨i0, hi, hz0, hz1, hz2⟩ := info_parts info8
  replace hi := Lib.hid hi
  go_enter Try.func19, Try.ntmps19
  go_wp2_with fail
  go_loopg [7] s.size (fun g h wr => ∃ k : Nat, ∃ m : Int, wr = w.iter s (ps s k) ∧ h = .int .i64 m ∧ Est k m ∧ ps s k ≤ s.size ∧ (∀ j, j < k → ps s j < s.size) ∧ s.size ≤ ps s k + g)
  case atStart => exact ⟨0, 2, rfl, rfl, ⟨by omega, by omega⟩, Nat.zero_le _, fun j hj => by omega, by omega⟩
  case round =>
    obtain ⟨k, m, rfl, rfl, hm, hle, hc, hg⟩ := hrel
    have hkp := ps_ge s k hc
    by_cases hp : ps s k < s.size
    · as_aux_lemma =>
        have hnx := fun ty => run_next_any (P := Try.prog) w s (ps s k) ty hp
        have hw := Hash.width_pos s (ps s k) hp
        have hle2 := ps_le s k hp
        have e1 : ps s (k + 1) = ps s k + (Utf8.decode s (ps s k)).2 := rfl
        rw [e1] at hle2
        have hgd := hV k hp
        have hrl := rune_le hgd
        have hsu := (Dec.dec_facts s (ps s k) hp).2.2
        obtain ⟨g', rfl⟩ : ∃ g', gk = g' + 1 := ⟨gk - 1, by omega⟩
        have e2 : ∀ j, j < k + 1 → ps s j < s.size := fun j hj => by
          by_cases hjk : j = k
          · rw [hjk]; exact hp
          · exact hc j (by omega)
        have hmm := hm
        have hm1 : 2 ≤ m := hm.1
        have hm2 : m ≤ 99000000 := by have := hm.2; omega
        replace e1 := Lib.hid e1
        replace e2 := Lib.hid e2
        replace hm := Lib.hid hmm
        clear hmm hc hgd hkp
        generalize Utf8.decode s (ps s k) = D at *
        generalize hpk : ps s k = p at *
        replace hpk := Lib.hid hpk
        obtain ⟨c, n⟩ := D
        dsimp only at hnx hw hle2 hrl hsu e1
        go_wp2_with fail
        go_at_call 25
        refine (canPr c a _ hrl hsu).mono ?_
        rintro e w' ⟨rfl, rfl⟩
        cases hpr : pr a c
        · have x39 : ¬ (c : Int) = 39 := fun h => by
            have : c = 39 := by omega
            subst this
            cases a <;> cases hpr
          by_cases h1 : c = 8 ∨ c = 12 ∨ c = 10 ∨ c = 13 ∨ c = 9 ∨ c = 92
          · rcases h1 with rfl | rfl | rfl | rfl | rfl | rfl
            all_goals
              go_wp2_with fail
              go_roundg g'
              case measure => omega
              case rel => exact ⟨k + 1, m + 2, by rw [e1.out], by simp, hm.out.step (by omega) (by omega), by rw [e1.out]; omega, e2.out, by rw [e1.out]; omega⟩
          have x8 : ¬ (c : Int) = 8 := by omega
          have x12 : ¬ (c : Int) = 12 := by omega
          have x10 : ¬ (c : Int) = 10 := by omega
          have x13 : ¬ (c : Int) = 13 := by omega
          have x9 : ¬ (c : Int) = 9 := by omega
          have x92 : ¬ (c : Int) = 92 := by omega
          clear h1
          by_cases h34 : c = 34
          · subst h34
            go_wp2_with fail
            go_roundg g'
            case measure => omega
            case rel => exact ⟨k + 1, m, by rw [e1.out], rfl, hm.out.step (by omega) (by omega), by rw [e1.out]; omega, e2.out, by rw [e1.out]; omega⟩
          have x34 : ¬ (c : Int) = 34 := by omega
          by_cases hB : (c : Int) ≤ 65535
          · go_wp2_with fail
            go_roundg g'
            case measure => omega
            case rel => exact ⟨k + 1, m + 6, by rw [e1.out], by simp, hm.out.step (by omega) (by omega), by rw [e1.out]; omega, e2.out, by rw [e1.out]; omega⟩
          · go_wp2_with fail
            go_roundg g'
            case measure => omega
            case rel => exact ⟨k + 1, m + 12, by rw [e1.out], by simp, hm.out.step (by omega) (by omega), by rw [e1.out]; omega, e2.out, by rw [e1.out]; omega⟩
        · go_wp2_with fail
          go_at_call 24
          refine (runeLen c _ hrl hsu).mono ?_
          rintro e w' ⟨r, hr, rfl, rfl⟩
          go_wp2_with fail
          go_roundg g'
          case measure => omega
          case rel => exact ⟨k + 1, m + r, by rw [e1.out], by simp, hm.out.step (by omega) (by omega), by rw [e1.out]; omega, e2.out, by rw [e1.out]; omega⟩
    · have hnx := fun ty => run_next_end (P := Try.prog) w s (ps s k) ty hp
      obtain ⟨M, rfl⟩ : ∃ M : Nat, m = (M : Int) := ⟨m.toNat, by have := hm.1; omega⟩
      have hM1 : 2 ≤ M := by have := hm.1; omega
      have hM2 : M ≤ 99000000 := by have := hm.2; omega
      have hB : w.heap.size ≤ (w.iter s (ps s k)).heap.size := ((Below.refl 0 w).alloc (Nat.zero_le _) _).size
      have hbl : Below w.heap.size w (w.iter s (ps s k)) := (Below.refl _ _).alloc (Nat.le_refl _) _
      clear hm hc hg hkp hp
      generalize w.iter s (ps s k) = W1 at *
      have hmk : (Instr.makeSlice 24 (.int .i64 0) (.int .i64 (M : Int))).run Try.prog W1 = _ := Ints.run_make_rowN (P := Try.prog) 24 5 i0 (.int .u8 0) Try.underlying24 hi.out hz0 .i64 .i64 0 M (by omega) (by rw [hz2]; omega) (by omega) W1
      have hn0 := Lib.hid (own_new2 w W1 w.heap.size hB hbl M (madeCells (Value.int .u8 0).cells (M * i0.size)) (by rw [hz1, size_madeCells]; simp) (by unfold maxLen; omega))
      generalize madeCells (Value.int .u8 0).cells (M * i0.size) = C0 at *
      go_wp2_with (at_builtin; refine wpList_append_many rfl (.tmp 62) (.tmp 64) _ rfl w.heap.size 5 i0 Try.underlying24 hi.out hz0 hz1 hz2 (.slice (some ⟨W1.heap.size, 0, none⟩) 0 M) 0 [] rfl w (W1.alloc (.cells C0 5)) [39] hn0.out 1 rfl (by rw [World.size_alloc]; rfl) (by omega) ?_; intro v1 w1 hb1)
      go_loopg [10, 11] s.size (fun g bv iv wr => ∃ k : Nat, iv = .int .i64 (ps s k) ∧ ps s k ≤ s.size ∧ s.size ≤ ps s k + g ∧ (∀ j, j < k → ps s j < s.size) ∧ QB a s k bv w.heap.size w wr)
      case atStart => exact ⟨0, rfl, Nat.zero_le _, by simp [ps], fun j hj => by omega, hb1⟩
      case round =>
        clear hb1 hn0 hmk hnx hM1 hM2 hB hbl
        obtain ⟨k, rfl, hle, hg, hc, hq⟩ := hrel
        have hkp := ps_ge s k hc
        have hql := quo_len a s k
        have nx : ∀ cs, piece a s (ps s k) = cs → ∀ v' w' m, m = cs.length → OwnBuf w.heap.size 5 v' (1 + (quo a s k).length + m) ((.int .u8 39 :: cells8 (quo a s k)) ++ cells8 cs) w w' → QB a s (k + 1) v' w.heap.size w w' := fun cs h v' w' m hm hb => QB.next h m hm hb
        have rn : ∀ n, ps s (k + n) ≤ s.size → (∀ j, j < n → pr a (Utf8.decode s (ps s (k + j))).1 = true) → ∀ v' w' t, t = s.extract (ps s k) (ps s (k + n)) → OwnBuf w.heap.size 5 v' (1 + (quo a s k).length + t.size) ((.int .u8 39 :: cells8 (quo a s k)) ++ strCells t) w w' → QB a s (k + n) v' w.heap.size w w' := fun n h1 h2 v' w' t ht hb => QB.run h1 h2 t ht hb
        have fin : ¬ ps s k < s.size → ∀ v' w', OwnBuf w.heap.size 5 v' (1 + (quo a s k).length + 1) ((.int .u8 39 :: cells8 (quo a s k)) ++ cells8 [39]) w w' → Quoted a s w (.returned v') w' := fun h v' w' hb => QuoN.quoted h hc hb
        unfold QB at hq
        have hN : 1 + (quo a s k).length ≤ 99000000 := by omega
        generalize 1 + (quo a s k).length = N at *
        generalize (Value.int IntKind.u8 39 :: cells8 (quo a s k)) = xs at *
        replace nx := Lib.hid nx
        replace rn := Lib.hid rn
        replace fin := Lib.hid fin
        replace hq := Lib.hid hq
        clear hql
        by_cases hp : ps s k < s.size
        · have hw := Hash.width_pos s (ps s k) hp
          have hle2 := ps_le s k hp
          have e1 : ps s (k + 1) = ps s k + (Utf8.decode s (ps s k)).2 := rfl
          have hgd := hV k hp
          have hrl := rune_le hgd
          have hsu := (Dec.dec_facts s (ps s k) hp).2.2
          have hz := wtfAt s (ps s k) wr hs hp hgd
          obtain ⟨g', rfl⟩ : ∃ g', gk = g' + 1 := ⟨gk - 1, by omega⟩
          have e2 : ∀ j, j < k + 1 → ps s j < s.size := fun j hj => by
            by_cases hjk : j = k
            · rw [hjk]; exact hp
            · exact hc j (by omega)
          have c0 : (ps s k : Int) < (s.size : Int) := by omega
          replace e2 := Lib.hid e2
          replace hz := Lib.hid hz
          replace hgd := Lib.hid hgd
          replace hV := Lib.hid hV
          clear hc hkp
          have hD : Utf8.decode s (ps s k) = ((Utf8.decode s (ps s k)).1, (Utf8.decode s (ps s k)).2) := rfl
          replace hD := Lib.hid hD
          generalize hpk : ps s k = p at *
          replace hpk := Lib.hid hpk
          generalize hDc : (Utf8.decode s p).1 = c at *
          generalize hDn : (Utf8.decode s p).2 = n at *
          replace hDc := Lib.hid hDc
          replace hDn := Lib.hid hDn
          have hle3 := hle2
          rw [e1] at hle3
          replace e1 := Lib.hid e1
          go_wp2_with fail
          go_at_call 26
          refine hz.out.mono ?_
          rintro e w' ⟨rfl, rfl⟩
          rw [hDc.out, hDn.out]
          clear hz
          go_wp2_with fail
          go_at_call 25
          refine (canPr c a _ hrl hsu).mono ?_
          rintro e w' ⟨rfl, rfl⟩
          cases hpr : pr a c
          · have x39 : ¬ (c : Int) = 39 := fun h => by
              have : c = 39 := by omega
              subst this
              cases a <;> cases hpr
            have hpe := pc_esc (s := s) (p := p) (by rw [hD.out]) hpr
            replace hpe := Lib.hid hpe
            replace hpr := Lib.hid hpr
            by_cases h8 : c = 8
            · as_aux_lemma =>
                subst h8
                obtain ⟨rfl, -⟩ : n = 1 ∧ True := ⟨by rw [← hDn.out]; exact (one_byte hgd.out (by rw [hDc.out]; decide)).1, trivial⟩
                have hpc := Lib.hid (nx.out [92, 98] (by rw [hpe.out]; rfl))
                go_wp2_with (at_builtin; refine wpList_append_text rfl (.tmp 171) _ _ _ rfl w.heap.size 5 i0 Try.underlying24 Try.underlying9 hi.out hz0 hz1 hz2 u10 N xs rfl w hq.out ⟨#[92, 98]⟩ rfl (by show N + 2 ≤ _; omega) ?_; intro v' w' hb')
                go_roundg g'
                case measure => omega
                case rel => exact ⟨k + 1, by rw [e1.out]; simp, by rw [e1.out]; omega, by rw [e1.out]; omega, e2.out, hpc.out _ _ 2 rfl hb'⟩
            have x8 : ¬ (c : Int) = 8 := by omega
            by_cases h12 : c = 12
            · as_aux_lemma =>
                subst h12
                obtain ⟨rfl, -⟩ : n = 1 ∧ True := ⟨by rw [← hDn.out]; exact (one_byte hgd.out (by rw [hDc.out]; decide)).1, trivial⟩
                have hpc := Lib.hid (nx.out [92, 102] (by rw [hpe.out]; rfl))
                go_wp2_with (at_builtin; refine wpList_append_text rfl (.tmp 177) _ _ _ rfl w.heap.size 5 i0 Try.underlying24 Try.underlying9 hi.out hz0 hz1 hz2 u10 N xs rfl w hq.out ⟨#[92, 102]⟩ rfl (by show N + 2 ≤ _; omega) ?_; intro v' w' hb')
                go_roundg g'
                case measure => omega
                case rel => exact ⟨k + 1, by rw [e1.out]; simp, by rw [e1.out]; omega, by rw [e1.out]; omega, e2.out, hpc.out _ _ 2 rfl hb'⟩
            have x12 : ¬ (c : Int) = 12 := by omega
            by_cases h10 : c = 10
            · as_aux_lemma =>
                subst h10
                obtain ⟨rfl, -⟩ : n = 1 ∧ True := ⟨by rw [← hDn.out]; exact (one_byte hgd.out (by rw [hDc.out]; decide)).1, trivial⟩
                have hpc := Lib.hid (nx.out [92, 110] (by rw [hpe.out]; rfl))
                go_wp2_with (at_builtin; refine wpList_append_text rfl (.tmp 183) _ _ _ rfl w.heap.size 5 i0 Try.underlying24 Try.underlying9 hi.out hz0 hz1 hz2 u10 N xs rfl w hq.out ⟨#[92, 110]⟩ rfl (by show N + 2 ≤ _; omega) ?_; intro v' w' hb')
                go_roundg g'
                case measure => omega
                case rel => exact ⟨k + 1, by rw [e1.out]; simp, by rw [e1.out]; omega, by rw [e1.out]; omega, e2.out, hpc.out _ _ 2 rfl hb'⟩
            have x10 : ¬ (c : Int) = 10 := by omega
            by_cases h13 : c = 13
            · as_aux_lemma =>
                subst h13
                obtain ⟨rfl, -⟩ : n = 1 ∧ True := ⟨by rw [← hDn.out]; exact (one_byte hgd.out (by rw [hDc.out]; decide)).1, trivial⟩
                have hpc := Lib.hid (nx.out [92, 114] (by rw [hpe.out]; rfl))
                go_wp2_with (at_builtin; refine wpList_append_text rfl (.tmp 189) _ _ _ rfl w.heap.size 5 i0 Try.underlying24 Try.underlying9 hi.out hz0 hz1 hz2 u10 N xs rfl w hq.out ⟨#[92, 114]⟩ rfl (by show N + 2 ≤ _; omega) ?_; intro v' w' hb')
                go_roundg g'
                case measure => omega
                case rel => exact ⟨k + 1, by rw [e1.out]; simp, by rw [e1.out]; omega, by rw [e1.out]; omega, e2.out, hpc.out _ _ 2 rfl hb'⟩
            have x13 : ¬ (c : Int) = 13 := by omega
            by_cases h9 : c = 9
            · as_aux_lemma =>
                subst h9
                obtain ⟨rfl, -⟩ : n = 1 ∧ True := ⟨by rw [← hDn.out]; exact (one_byte hgd.out (by rw [hDc.out]; decide)).1, trivial⟩
                have hpc := Lib.hid (nx.out [92, 116] (by rw [hpe.out]; rfl))
                go_wp2_with (at_builtin; refine wpList_append_text rfl (.tmp 195) _ _ _ rfl w.heap.size 5 i0 Try.underlying24 Try.underlying9 hi.out hz0 hz1 hz2 u10 N xs rfl w hq.out ⟨#[92, 116]⟩ rfl (by show N + 2 ≤ _; omega) ?_; intro v' w' hb')
                go_roundg g'
                case measure => omega
                case rel => exact ⟨k + 1, by rw [e1.out]; simp, by rw [e1.out]; omega, by rw [e1.out]; omega, e2.out, hpc.out _ _ 2 rfl hb'⟩
            have x9 : ¬ (c : Int) = 9 := by omega
            by_cases h92 : c = 92
            · as_aux_lemma =>
                subst h92
                obtain ⟨rfl, -⟩ : n = 1 ∧ True := ⟨by rw [← hDn.out]; exact (one_byte hgd.out (by rw [hDc.out]; decide)).1, trivial⟩
                have hpc := Lib.hid (nx.out [92, 92] (by rw [hpe.out]; rfl))
                go_wp2_with (at_builtin; refine wpList_append_text rfl (.tmp 201) _ _ _ rfl w.heap.size 5 i0 Try.underlying24 Try.underlying9 hi.out hz0 hz1 hz2 u10 N xs rfl w hq.out ⟨#[92, 92]⟩ rfl (by show N + 2 ≤ _; omega) ?_; intro v' w' hb')
                go_roundg g'
                case measure => omega
                case rel => exact ⟨k + 1, by rw [e1.out]; simp, by rw [e1.out]; omega, by rw [e1.out]; omega, e2.out, hpc.out _ _ 2 rfl hb'⟩
            have x92 : ¬ (c : Int) = 92 := by omega
            by_cases h34 : c = 34
            · as_aux_lemma =>
                subst h34
                obtain ⟨rfl, -⟩ : n = 1 ∧ True := ⟨by rw [← hDn.out]; exact (one_byte hgd.out (by rw [hDc.out]; decide)).1, trivial⟩
                have hpc := Lib.hid (nx.out [34] (by rw [hpe.out]; rfl))
                go_wp2_with (at_builtin; refine wpList_append_many rfl (.tmp 211) (.tmp 212) _ rfl w.heap.size 5 i0 Try.underlying24 hi.out hz0 hz1 hz2 u10 N xs rfl w wr [34] hq.out 1 rfl rfl (by omega) ?_; intro v' w' hb')
                go_roundg g'
                case measure => omega
                case rel => exact ⟨k + 1, by rw [e1.out]; simp, by rw [e1.out]; omega, by rw [e1.out]; omega, e2.out, hpc.out _ _ 1 rfl hb'⟩
            have x34 : ¬ (c : Int) = 34 := by omega
            have hesc : esc c = if c ≤ 65535 then hex4 c else hex4 (55296 + (c - 65536) / 1024) ++ hex4 (56320 + (c - 65536) % 1024) := by rw [esc, if_neg h8, if_neg h12, if_neg h10, if_neg h13, if_neg h9, if_neg h92, if_neg h34]
            by_cases hB : c ≤ 65535
            · have g1 : (c : Int) ≤ 65535 := by omega
              have hpc := Lib.hid (nx.out (hex4 c) (by rw [hpe.out, hesc, if_pos hB]))
              clear hesc
              have hb1 : OwnBuf w.heap.size 5 u10 N xs w wr.drew := hq.out.drewN 1
              replace hb1 := Lib.hid hb1
              obtain ⟨n1, q1⟩ : ∃ n1, n1 = c / 4096 % 16 := ⟨_, rfl⟩
              obtain ⟨n2, q2⟩ : ∃ n1, n1 = c / 256 % 16 := ⟨_, rfl⟩
              obtain ⟨n3, q3⟩ : ∃ n1, n1 = c / 16 % 16 := ⟨_, rfl⟩
              obtain ⟨n4, q4⟩ : ∃ n1, n1 = c % 16 := ⟨_, rfl⟩
              have l1 : n1 < 16 := by omega
              have l2 : n2 < 16 := by omega
              have l3 : n3 < 16 := by omega
              have l4 : n4 < 16 := by omega
              have m1 : (c : Int) / 4096 = (n1 : Int) := by omega
              have m2 : bits .and .i32 ((c : Int) / 256) 15 = (n2 : Int) := by rw [show (c : Int) / 256 = ((c / 256 : Nat) : Int) from by omega, and15 _ (by omega), q2]
              have m3 : bits .and .i32 ((c : Int) / 16) 15 = (n3 : Int) := by rw [show (c : Int) / 16 = ((c / 16 : Nat) : Int) from by omega, and15 _ (by omega), q3]
              have m4 : bits .and .i32 (c : Int) 15 = (n4 : Int) := by rw [and15 _ (by omega), q4]
              have z1 := hxe n1 l1
              have z2 := hxe n2 l2
              have z3 := hxe n3 l3
              have z4 := hxe n4 l4
              have y1 : (n1 : Int) < 16 := by omega
              have y2 : (n2 : Int) < 16 := by omega
              have y3 : (n3 : Int) < 16 := by omega
              have y4 : (n4 : Int) < 16 := by omega
              have hh : Hid (hex4 c = [92, 117, hx n1, hx n2, hx n3, hx n4]) := Lib.hid (by rw [hex4, q1, q2, q3, q4])
              clear q1 q2 q3 q4 h8 h12 h10 h13 h9 h92 h34 hB
              go_wp2_with fail
              refine wp_region_any (by kernel_rfl) ?_
              change wpAny _ _ _ _ _ _ _ (World.drew _)
              refine wpAny_take (i := 0) (v := ?_) rfl (by kernel_rfl) (by kernel_rfl) (by kernel_rfl) (fun _ _ _ h => h) (Or.inl ⟨by rfl, ?_⟩) ?_
              rotate_left 1
              · intro w9; go_simp; try with_reducible rfl
              refine wpAny_take (i := 1) (v := ?_) rfl (by kernel_rfl) (by kernel_rfl) (by kernel_rfl) (fun _ _ _ h => h) (Or.inl ⟨by rfl, ?_⟩) ?_
              rotate_left 1
              · intro w9; go_simp; try with_reducible rfl
              refine wpAny_take (i := 2) (v := ?_) rfl (by kernel_rfl) (by kernel_rfl) (by kernel_rfl) (fun _ _ _ h => h) (Or.inl ⟨by rfl, ?_⟩) ?_
              rotate_left 1
              · intro w9; go_simp; try with_reducible rfl
              refine wpAny_take (i := 3) (v := ?_) rfl (by kernel_rfl) (by kernel_rfl) (by kernel_rfl) (fun _ _ _ h => h) (Or.inl ⟨by rfl, ?_⟩) ?_
              rotate_left 1
              · intro w9; go_simp; try with_reducible rfl
              refine wpAny_take (i := 4) (v := ?_) rfl (by kernel_rfl) (by kernel_rfl) (by kernel_rfl) (fun _ _ _ h => h) (Or.inl ⟨by rfl, ?_⟩) ?_
              rotate_left 1
              · intro w9; go_simp; try with_reducible rfl
              refine wpAny_take (i := 5) (v := ?_) rfl (by kernel_rfl) (by kernel_rfl) (by kernel_rfl) (fun _ _ _ h => h) (Or.inl ⟨by rfl, ?_⟩) ?_
              rotate_left 1
              · intro w9; go_simp; try with_reducible rfl
              refine wpAny_take (i := 6) (v := ?_) rfl (by kernel_rfl) (by kernel_rfl) (by kernel_rfl) (fun _ _ _ h => h) (Or.inl ⟨by rfl, ?_⟩) ?_
              rotate_left 1
              · intro w9; go_simp; try with_reducible rfl
              refine wpAny_take (i := 7) (v := ?_) rfl (by kernel_rfl) (by kernel_rfl) (by kernel_rfl) (fun _ _ _ h => h) (Or.inl ⟨by rfl, ?_⟩) ?_
              rotate_left 1
              · intro w9; go_simp; try with_reducible rfl
              refine wpAny_take (i := 8) (v := ?_) rfl (by kernel_rfl) (by kernel_rfl) (by kernel_rfl) (fun _ _ _ h => h) (Or.inl ⟨by rfl, ?_⟩) ?_
              rotate_left 1
              · intro w9; go_simp; try with_reducible rfl
              refine wpAny_take (i := 9) (v := ?_) rfl (by kernel_rfl) (by kernel_rfl) (by kernel_rfl) (fun _ _ _ h => h) (Or.inl ⟨by rfl, ?_⟩) ?_
              rotate_left 1
              · intro w9; go_simp; try with_reducible rfl
              refine wpAny_take (i := 10) (v := ?_) rfl (by kernel_rfl) (by kernel_rfl) (by kernel_rfl) (fun _ _ _ h => h) (Or.inl ⟨by rfl, ?_⟩) ?_
              rotate_left 1
              · intro w9; go_simp; try with_reducible rfl
              refine wpAny_take (i := 11) (v := ?_) rfl (by kernel_rfl) (by kernel_rfl) (by kernel_rfl) (fun _ _ _ h => h) (Or.inl ⟨by rfl, ?_⟩) ?_
              rotate_left 1
              · intro w9; go_simp; try with_reducible rfl
              refine wpAny_take (i := 12) (v := ?_) rfl (by kernel_rfl) (by kernel_rfl) (by kernel_rfl) (fun _ _ _ h => h) (Or.inl ⟨by rfl, ?_⟩) ?_
              rotate_left 1
              · intro w9; go_simp; try with_reducible rfl
              refine wpAny_take (i := 13) (v := ?_) rfl (by kernel_rfl) (by kernel_rfl) (by kernel_rfl) (fun _ _ _ h => h) (Or.inl ⟨by rfl, ?_⟩) ?_
              rotate_left 1
              · intro w9; go_simp; try with_reducible rfl
              refine wpAny_take (i := 14) (v := ?_) rfl (by kernel_rfl) (by kernel_rfl) (by kernel_rfl) (fun _ _ _ h => h) (Or.inl ⟨by rfl, ?_⟩) ?_
              rotate_left 1
              · intro w9; go_simp; try with_reducible rfl
              refine wpAny_ready (rs := [15]) (by kernel_rfl) (by simp) ?_
              refine AllReady.cons rfl (fun K hK => ?_) AllReady.nil
              go_simp
              refine hK _ _ ?_
              clear hK K
              refine wpAny_ready (rs := [16]) (by kernel_rfl) (by simp) ?_
              refine AllReady.cons rfl (fun K hK => ?_) AllReady.nil
              refine step_append_many rfl (.tmp 112) (.tmp 127) _ rfl w.heap.size 5 i0 Try.underlying24 hi.out hz0 hz1 hz2 u10 N xs rfl w wr.drew [92, 117, hx n1, hx n2, hx n3, hx n4] hb1.out 6 rfl rfl (by omega) ?_; intro v' w' hb'
              try go_simp
              refine hK _ _ ?_
              clear hK K
              refine wpAny_take (i := 17) (v := ?_) rfl (by kernel_rfl) (by kernel_rfl) (by kernel_rfl) (fun _ _ _ h => h) (Or.inl ⟨by rfl, ?_⟩) ?_
              rotate_left 1
              · intro w9; go_simp; try with_reducible rfl
              refine wpAny_done (by kernel_rfl) ?_ _
              go_wp2_with fail
              go_roundg g'
              case measure => omega
              case rel => exact ⟨k + 1, by rw [e1.out]; simp, by rw [e1.out]; omega, by rw [e1.out]; omega, e2.out, hpc.out _ _ 6 (by rw [hh.out]; rfl) (by rw [hh.out]; exact hb')⟩
            · have g1 : ¬ (c : Int) ≤ 65535 := by omega
              obtain ⟨d, hd⟩ : ∃ d, d = c - 65536 := ⟨_, rfl⟩
              have hd2 : d ≤ 1048575 := by omega
              obtain ⟨X, eX⟩ : ∃ X, X = 55296 + d / 1024 := ⟨_, rfl⟩
              obtain ⟨Y, eY⟩ : ∃ Y, Y = 56320 + d % 1024 := ⟨_, rfl⟩
              have hpc := Lib.hid (nx.out (hex4 X ++ hex4 Y) (by rw [hpe.out, hesc, if_neg hB, ← hd, eX, eY]))
              clear hesc
              have hb1 : OwnBuf w.heap.size 5 u10 N xs w wr.drew := hq.out.drewN 1
              replace hb1 := Lib.hid hb1
              have ia : 55296 + bits .and .i32 (((c : Int) - 65536) / 1024) 1023 = (X : Int) := by
                rw [show ((c : Int) - 65536) / 1024 = ((d / 1024 : Nat) : Int) from by omega, and1023 (d / 1024) (by omega)]
                omega
              have ib : 56320 + bits .and .i32 ((c : Int) - 65536) 1023 = (Y : Int) := by
                rw [show (c : Int) - 65536 = (d : Int) from by omega, and1023 d (by omega)]
                omega
              have ja : 0 ≤ bits .and .i32 (((c : Int) - 65536) / 1024) 1023 := by omega
              have ja2 : bits .and .i32 (((c : Int) - 65536) / 1024) 1023 ≤ 1023 := by omega
              have jb : 0 ≤ bits .and .i32 ((c : Int) - 65536) 1023 := by omega
              have jb2 : bits .and .i32 ((c : Int) - 65536) 1023 ≤ 1023 := by omega
              have hX1 : X ≤ 57343 := by omega
              have hY1 : Y ≤ 57343 := by omega
              clear eX eY hd
              obtain ⟨a1, q1a⟩ : ∃ n1, n1 = X / 4096 % 16 := ⟨_, rfl⟩
              obtain ⟨a2, q2a⟩ : ∃ n1, n1 = X / 256 % 16 := ⟨_, rfl⟩
              obtain ⟨a3, q3a⟩ : ∃ n1, n1 = X / 16 % 16 := ⟨_, rfl⟩
              obtain ⟨a4, q4a⟩ : ∃ n1, n1 = X % 16 := ⟨_, rfl⟩
              have l1a : a1 < 16 := by omega
              have l2a : a2 < 16 := by omega
              have l3a : a3 < 16 := by omega
              have l4a : a4 < 16 := by omega
              have m1a : (X : Int) / 4096 = (a1 : Int) := by omega
              have m2a : bits .and .i32 ((X : Int) / 256) 15 = (a2 : Int) := by rw [show (X : Int) / 256 = ((X / 256 : Nat) : Int) from by omega, and15 _ (by omega), q2a]
              have m3a : bits .and .i32 ((X : Int) / 16) 15 = (a3 : Int) := by rw [show (X : Int) / 16 = ((X / 16 : Nat) : Int) from by omega, and15 _ (by omega), q3a]
              have m4a : bits .and .i32 (X : Int) 15 = (a4 : Int) := by rw [and15 _ (by omega), q4a]
              have z1a := hxe a1 l1a
              have z2a := hxe a2 l2a
              have z3a := hxe a3 l3a
              have z4a := hxe a4 l4a
              have y1a : (a1 : Int) < 16 := by omega
              have y2a : (a2 : Int) < 16 := by omega
              have y3a : (a3 : Int) < 16 := by omega
              have y4a : (a4 : Int) < 16 := by omega
              have hha : Hid (hex4 X = [92, 117, hx a1, hx a2, hx a3, hx a4]) := Lib.hid (by rw [hex4, q1a, q2a, q3a, q4a])
              clear q1a q2a q3a q4a
              obtain ⟨b1, q1b⟩ : ∃ n1, n1 = Y / 4096 % 16 := ⟨_, rfl⟩
              obtain ⟨b2, q2b⟩ : ∃ n1, n1 = Y / 256 % 16 := ⟨_, rfl⟩
              obtain ⟨b3, q3b⟩ : ∃ n1, n1 = Y / 16 % 16 := ⟨_, rfl⟩
              obtain ⟨b4, q4b⟩ : ∃ n1, n1 = Y % 16 := ⟨_, rfl⟩
              have l1b : b1 < 16 := by omega
              have l2b : b2 < 16 := by omega
              have l3b : b3 < 16 := by omega
              have l4b : b4 < 16 := by omega
              have m1b : (Y : Int) / 4096 = (b1 : Int) := by omega
              have m2b : bits .and .i32 ((Y : Int) / 256) 15 = (b2 : Int) := by rw [show (Y : Int) / 256 = ((Y / 256 : Nat) : Int) from by omega, and15 _ (by omega), q2b]
              have m3b : bits .and .i32 ((Y : Int) / 16) 15 = (b3 : Int) := by rw [show (Y : Int) / 16 = ((Y / 16 : Nat) : Int) from by omega, and15 _ (by omega), q3b]
              have m4b : bits .and .i32 (Y : Int) 15 = (b4 : Int) := by rw [and15 _ (by omega), q4b]
              have z1b := hxe b1 l1b
              have z2b := hxe b2 l2b
              have z3b := hxe b3 l3b
              have z4b := hxe b4 l4b
              have y1b : (b1 : Int) < 16 := by omega
              have y2b : (b2 : Int) < 16 := by omega
              have y3b : (b3 : Int) < 16 := by omega
              have y4b : (b4 : Int) < 16 := by omega
              have hhb : Hid (hex4 Y = [92, 117, hx b1, hx b2, hx b3, hx b4]) := Lib.hid (by rw [hex4, q1b, q2b, q3b, q4b])
              clear q1b q2b q3b q4b
              clear h8 h12 h10 h13 h9 h92 h34 hB
              go_wp2_with fail
              refine wp_region_any (by kernel_rfl) ?_
              change wpAny _ _ _ _ _ _ _ (World.drew _)
              refine wpAny_take (i := 0) (v := ?_) rfl (by kernel_rfl) (by kernel_rfl) (by kernel_rfl) (fun _ _ _ h => h) (Or.inl ⟨by rfl, ?_⟩) ?_
              rotate_left 1
              · intro w9; go_simp; try with_reducible rfl
              refine wpAny_take (i := 1) (v := ?_) rfl (by kernel_rfl) (by kernel_rfl) (by kernel_rfl) (fun _ _ _ h => h) (Or.inl ⟨by rfl, ?_⟩) ?_
              rotate_left 1
              · intro w9; go_simp; try with_reducible rfl
              refine wpAny_take (i := 2) (v := ?_) rfl (by kernel_rfl) (by kernel_rfl) (by kernel_rfl) (fun _ _ _ h => h) (Or.inl ⟨by rfl, ?_⟩) ?_
              rotate_left 1
              · intro w9; go_simp; try with_reducible rfl
              refine wpAny_take (i := 3) (v := ?_) rfl (by kernel_rfl) (by kernel_rfl) (by kernel_rfl) (fun _ _ _ h => h) (Or.inl ⟨by rfl, ?_⟩) ?_
              rotate_left 1
              · intro w9; go_simp; try with_reducible rfl
              refine wpAny_take (i := 4) (v := ?_) rfl (by kernel_rfl) (by kernel_rfl) (by kernel_rfl) (fun _ _ _ h => h) (Or.inl ⟨by rfl, ?_⟩) ?_
              rotate_left 1
              · intro w9; go_simp; try with_reducible rfl
              refine wpAny_take (i := 5) (v := ?_) rfl (by kernel_rfl) (by kernel_rfl) (by kernel_rfl) (fun _ _ _ h => h) (Or.inl ⟨by rfl, ?_⟩) ?_
              rotate_left 1
              · intro w9; go_simp; try with_reducible rfl
              refine wpAny_take (i := 6) (v := ?_) rfl (by kernel_rfl) (by kernel_rfl) (by kernel_rfl) (fun _ _ _ h => h) (Or.inl ⟨by rfl, ?_⟩) ?_
              rotate_left 1
              · intro w9; go_simp; try with_reducible rfl
              refine wpAny_take (i := 7) (v := ?_) rfl (by kernel_rfl) (by kernel_rfl) (by kernel_rfl) (fun _ _ _ h => h) (Or.inl ⟨by rfl, ?_⟩) ?_
              rotate_left 1
              · intro w9; go_simp; try with_reducible rfl
              refine wpAny_take (i := 8) (v := ?_) rfl (by kernel_rfl) (by kernel_rfl) (by kernel_rfl) (fun _ _ _ h => h) (Or.inl ⟨by rfl, ?_⟩) ?_
              rotate_left 1
              · intro w9; go_simp; try with_reducible rfl
              refine wpAny_take (i := 9) (v := ?_) rfl (by kernel_rfl) (by kernel_rfl) (by kernel_rfl) (fun _ _ _ h => h) (Or.inl ⟨by rfl, ?_⟩) ?_
              rotate_left 1
              · intro w9; go_simp; try with_reducible rfl
              refine wpAny_take (i := 10) (v := ?_) rfl (by kernel_rfl) (by kernel_rfl) (by kernel_rfl) (fun _ _ _ h => h) (Or.inl ⟨by rfl, ?_⟩) ?_
              rotate_left 1
              · intro w9; go_simp; try with_reducible rfl
              refine wpAny_take (i := 11) (v := ?_) rfl (by kernel_rfl) (by kernel_rfl) (by kernel_rfl) (fun _ _ _ h => h) (Or.inl ⟨by rfl, ?_⟩) ?_
              rotate_left 1
              · intro w9; go_simp; try with_reducible rfl
              refine wpAny_take (i := 12) (v := ?_) rfl (by kernel_rfl) (by kernel_rfl) (by kernel_rfl) (fun _ _ _ h => h) (Or.inl ⟨by rfl, ?_⟩) ?_
              rotate_left 1
              · intro w9; go_simp; try with_reducible rfl
              refine wpAny_take (i := 13) (v := ?_) rfl (by kernel_rfl) (by kernel_rfl) (by kernel_rfl) (fun _ _ _ h => h) (Or.inl ⟨by rfl, ?_⟩) ?_
              rotate_left 1
              · intro w9; go_simp; try with_reducible rfl
              refine wpAny_take (i := 14) (v := ?_) rfl (by kernel_rfl) (by kernel_rfl) (by kernel_rfl) (fun _ _ _ h => h) (Or.inl ⟨by rfl, ?_⟩) ?_
              rotate_left 1
              · intro w9; go_simp; try with_reducible rfl
              refine wpAny_take (i := 15) (v := ?_) rfl (by kernel_rfl) (by kernel_rfl) (by kernel_rfl) (fun _ _ _ h => h) (Or.inl ⟨by rfl, ?_⟩) ?_
              rotate_left 1
              · intro w9; go_simp; try with_reducible rfl
              refine wpAny_take (i := 16) (v := ?_) rfl (by kernel_rfl) (by kernel_rfl) (by kernel_rfl) (fun _ _ _ h => h) (Or.inl ⟨by rfl, ?_⟩) ?_
              rotate_left 1
              · intro w9; go_simp; try with_reducible rfl
              refine wpAny_take (i := 17) (v := ?_) rfl (by kernel_rfl) (by kernel_rfl) (by kernel_rfl) (fun _ _ _ h => h) (Or.inl ⟨by rfl, ?_⟩) ?_
              rotate_left 1
              · intro w9; go_simp; try with_reducible rfl
              refine wpAny_take (i := 18) (v := ?_) rfl (by kernel_rfl) (by kernel_rfl) (by kernel_rfl) (fun _ _ _ h => h) (Or.inl ⟨by rfl, ?_⟩) ?_
              rotate_left 1
              · intro w9; go_simp; try with_reducible rfl
              refine wpAny_take (i := 19) (v := ?_) rfl (by kernel_rfl) (by kernel_rfl) (by kernel_rfl) (fun _ _ _ h => h) (Or.inl ⟨by rfl, ?_⟩) ?_
              rotate_left 1
              · intro w9; go_simp; try with_reducible rfl
              refine wpAny_take (i := 20) (v := ?_) rfl (by kernel_rfl) (by kernel_rfl) (by kernel_rfl) (fun _ _ _ h => h) (Or.inl ⟨by rfl, ?_⟩) ?_
              rotate_left 1
              · intro w9; go_simp; try with_reducible rfl
              refine wpAny_take (i := 21) (v := ?_) rfl (by kernel_rfl) (by kernel_rfl) (by kernel_rfl) (fun _ _ _ h => h) (Or.inl ⟨by rfl, ?_⟩) ?_
              rotate_left 1
              · intro w9; go_simp; try with_reducible rfl
              refine wpAny_take (i := 22) (v := ?_) rfl (by kernel_rfl) (by kernel_rfl) (by kernel_rfl) (fun _ _ _ h => h) (Or.inl ⟨by rfl, ?_⟩) ?_
              rotate_left 1
              · intro w9; go_simp; try with_reducible rfl
              refine wpAny_take (i := 23) (v := ?_) rfl (by kernel_rfl) (by kernel_rfl) (by kernel_rfl) (fun _ _ _ h => h) (Or.inl ⟨by rfl, ?_⟩) ?_
              rotate_left 1
              · intro w9; go_simp; try with_reducible rfl
              refine wpAny_take (i := 24) (v := ?_) rfl (by kernel_rfl) (by kernel_rfl) (by kernel_rfl) (fun _ _ _ h => h) (Or.inl ⟨by rfl, ?_⟩) ?_
              rotate_left 1
              · intro w9; go_simp; try with_reducible rfl
              refine wpAny_take (i := 25) (v := ?_) rfl (by kernel_rfl) (by kernel_rfl) (by kernel_rfl) (fun _ _ _ h => h) (Or.inl ⟨by rfl, ?_⟩) ?_
              rotate_left 1
              · intro w9; go_simp; try with_reducible rfl
              refine wpAny_take (i := 26) (v := ?_) rfl (by kernel_rfl) (by kernel_rfl) (by kernel_rfl) (fun _ _ _ h => h) (Or.inl ⟨by rfl, ?_⟩) ?_
              rotate_left 1
              · intro w9; go_simp; try with_reducible rfl
              refine wpAny_take (i := 27) (v := ?_) rfl (by kernel_rfl) (by kernel_rfl) (by kernel_rfl) (fun _ _ _ h => h) (Or.inl ⟨by rfl, ?_⟩) ?_
              rotate_left 1
              · intro w9; go_simp; try with_reducible rfl
              refine wpAny_take (i := 28) (v := ?_) rfl (by kernel_rfl) (by kernel_rfl) (by kernel_rfl) (fun _ _ _ h => h) (Or.inl ⟨by rfl, ?_⟩) ?_
              rotate_left 1
              · intro w9; go_simp; try with_reducible rfl
              refine wpAny_ready (rs := [29]) (by kernel_rfl) (by simp) ?_
              refine AllReady.cons rfl (fun K hK => ?_) AllReady.nil
              go_simp
              refine hK _ _ ?_
              clear hK K
              refine wpAny_ready (rs := [30]) (by kernel_rfl) (by simp) ?_
              refine AllReady.cons rfl (fun K hK => ?_) AllReady.nil
              refine step_append_many rfl (.tmp 138) (.tmp 167) _ rfl w.heap.size 5 i0 Try.underlying24 hi.out hz0 hz1 hz2 u10 N xs rfl w wr.drew [92, 117, hx a1, hx a2, hx a3, hx a4, 92, 117, hx b1, hx b2, hx b3, hx b4] hb1.out 12 rfl rfl (by omega) ?_; intro v' w' hb'
              try go_simp
              refine hK _ _ ?_
              clear hK K
              refine wpAny_take (i := 31) (v := ?_) rfl (by kernel_rfl) (by kernel_rfl) (by kernel_rfl) (fun _ _ _ h => h) (Or.inl ⟨by rfl, ?_⟩) ?_
              rotate_left 1
              · intro w9; go_simp; try with_reducible rfl
              refine wpAny_done (by kernel_rfl) ?_ _
              go_wp2_with fail
              go_roundg g'
              case measure => omega
              case rel => exact ⟨k + 1, by rw [e1.out]; simp, by rw [e1.out]; omega, by rw [e1.out]; omega, e2.out, hpc.out _ _ 12 (by rw [hha.out, hhb.out]; rfl) (by rw [hha.out, hhb.out]; exact hb')⟩
          · as_aux_lemma =>
              have hpr0 := Lib.hid hpr
              clear hpr
              have hpr1 : Hid (pr a (Utf8.decode s p).1 = true) := Lib.hid (by rw [hDc.out]; exact hpr0.out)
              go_wp2_with fail
              go_loopg [11] s.size (fun g iv w2 => ∃ q : Nat, iv = .int .i64 (ps s (k + 1 + q)) ∧ ps s (k + 1 + q) ≤ s.size ∧ s.size ≤ ps s (k + 1 + q) + g ∧ (∀ j, j < k + 1 + q → ps s j < s.size) ∧ (∀ j, j < 1 + q → pr a (Utf8.decode s (ps s (k + j))).1 = true) ∧ wr = w2)
              case atStart => exact ⟨0, by rw [Nat.add_zero, e1.out]; simp, by rw [Nat.add_zero, e1.out]; omega, by omega, e2.out, fun j hj => by
                obtain rfl : j = 0 := by omega
                rw [Nat.add_zero, hpk.out]; exact hpr1.out, rfl⟩
              case round =>
                obtain ⟨q, rfl, hleq, hgq, hcq, hprq, rfl⟩ := hrel
                have hmq := ps_mono s (k + 1) (k + 1 + q) (by omega)
                rw [e1.out] at hmq
                have rq := rn.out (1 + q) (by rw [← Nat.add_assoc]; exact hleq) hprq
                rw [← Nat.add_assoc] at rq
                replace rq := Lib.hid rq
                by_cases hpq : ps s (k + 1 + q) < s.size
                · have hleq2 := ps_le s (k + 1 + q) hpq
                  have f1 : ps s (k + 1 + (q + 1)) = ps s (k + 1 + q) + (Utf8.decode s (ps s (k + 1 + q))).2 := rfl
                  have hgdq := hV.out (k + 1 + q) hpq
                  have hwq := Hash.width_pos s (ps s (k + 1 + q)) hpq
                  have hrlq := rune_le hgdq
                  have hsuq := (Dec.dec_facts s (ps s (k + 1 + q)) hpq).2.2
                  have hzq := wtfAt s (ps s (k + 1 + q)) wr hs hpq hgdq
                  obtain ⟨gq, rfl⟩ : ∃ g', gk = g' + 1 := ⟨gk - 1, by omega⟩
                  have f2 : ∀ j, j < k + 1 + (q + 1) → ps s j < s.size := fun j hj => by
                    by_cases hjk : j = k + 1 + q
                    · rw [hjk]; exact hpq
                    · exact hcq j (by omega)
                  have f3 : pr a (Utf8.decode s (ps s (k + 1 + q))).1 = true → ∀ j, j < 1 + (q + 1) → pr a (Utf8.decode s (ps s (k + j))).1 = true := fun hh j hj => by
                    by_cases hjk : j = 1 + q
                    · rw [hjk, ← Nat.add_assoc]; exact hh
                    · exact hprq j (by omega)
                  have f4 : (ps s (k + 1 + q) : Int) < (s.size : Int) := by omega
                  replace hleq2 : ps s (k + 1 + q) + (Utf8.decode s (ps s (k + 1 + q))).2 ≤ s.size := hleq2
                  replace f2 := Lib.hid f2
                  replace f3 := Lib.hid f3
                  replace hzq := Lib.hid hzq
                  clear hcq hprq hgdq
                  generalize hpkq : ps s (k + 1 + q) = p2 at *
                  replace hpkq := Lib.hid hpkq
                  generalize hDcq : (Utf8.decode s p2).1 = c2 at *
                  generalize hDnq : (Utf8.decode s p2).2 = n2 at *
                  replace hDcq := Lib.hid hDcq
                  replace hDnq := Lib.hid hDnq
                  replace f1 := Lib.hid f1
                  go_wp2_with fail
                  go_at_call 26
                  refine hzq.out.mono ?_
                  rintro e w' ⟨rfl, rfl⟩
                  rw [hDcq.out, hDnq.out]
                  clear hzq
                  go_wp2_with fail
                  go_at_call 25
                  refine (canPr c2 a _ hrlq hsuq).mono ?_
                  rintro e w' ⟨rfl, rfl⟩
                  cases hprc : pr a c2
                  · have hsz : (s.extract p p2).size ≤ s.size := by simp; omega
                    have hpp : p ≤ p2 := by omega
                    go_wp2_with (at_builtin; refine wpList_append_text rfl (.tmp 100) (.tmp 104) _ _ rfl w.heap.size 5 i0 Try.underlying24 Try.underlying9 hi.out hz0 hz1 hz2 u10 N xs rfl w hq.out (s.extract p p2) rfl (by omega) ?_; intro v' w' hb')
                    go_roundg g'
                    case measure => omega
                    case rel => exact ⟨k + 1 + q, by rw [hpkq.out], by rw [hpkq.out]; omega, by rw [hpkq.out]; omega, fun j hj => f2.out j (by omega), rq.out _ _ _ rfl hb'⟩
                  · replace f3 := Lib.hid (f3.out hprc)
                    go_wp2_with fail
                    go_roundg gq
                    case measure => omega
                    case rel => exact ⟨q + 1, by rw [f1.out]; simp, by rw [f1.out]; omega, by rw [f1.out]; omega, f2.out, f3.out, rfl⟩
                · replace hcq := Lib.hid hcq
                  have f4 : ¬ (ps s (k + 1 + q) : Int) < (s.size : Int) := by omega
                  clear hprq
                  generalize hpkq : ps s (k + 1 + q) = p2 at *
                  replace hpkq := Lib.hid hpkq
                  have hsz : (s.extract p p2).size ≤ s.size := by simp; omega
                  have hpp : p ≤ p2 := by omega
                  go_wp2_with (at_builtin; refine wpList_append_text rfl (.tmp 100) (.tmp 104) _ _ rfl w.heap.size 5 i0 Try.underlying24 Try.underlying9 hi.out hz0 hz1 hz2 u10 N xs rfl w hq.out (s.extract p p2) rfl (by omega) ?_; intro v' w' hb')
                  go_roundg g'
                  case measure => omega
                  case rel => exact ⟨k + 1 + q, by rw [hpkq.out], by rw [hpkq.out]; omega, by rw [hpkq.out]; omega, hcq.out, rq.out _ _ _ rfl hb'⟩
        · have c0 : ¬ (ps s k : Int) < (s.size : Int) := by omega
          replace fin := Lib.hid (fin.out hp)
          go_wp2_with (at_builtin; refine wpList_append_many rfl (.tmp 227) (.tmp 229) _ rfl w.heap.size 5 i0 Try.underlying24 hi.out hz0 hz1 hz2 u10 N xs rfl w wr [39] hq.out 1 rfl rfl (by omega) ?_; intro v' w' hb')
          go_ret
          exact fin.out _ _ hb'
end Go.Proofs.Ytgeijelkojgapaa.QuoI
