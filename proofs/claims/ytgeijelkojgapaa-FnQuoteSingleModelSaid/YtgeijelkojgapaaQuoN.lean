/-
  zzModelQuote: one piece a rune, between apostrophes. Condition: a valid text of at most 2^20 bytes.
-/
import Derived.Test.YtgeijelkojgapaaQuoZ
namespace Go.Proofs.Ytgeijelkojgapaa.QuoN
open Go.RowKit Go.Lib Go.ChangeShapes Go.WideShapes Go.ChangeAt Go.Proofs.Ytgeijelkojgapaa.U8 Go.Proofs.Ytgeijelkojgapaa.QuoD Go.Proofs.Ytgeijelkojgapaa.QuoM Go.Proofs.Ytgeijelkojgapaa.QuoL Go.Proofs.Ytgeijelkojgapaa.QuoP Go.Proofs.Ytgeijelkojgapaa.QuoA Go.Proofs.Ytgeijelkojgapaa.QuoZ

/-- The buffer after k runes. -/
def QB (a : Bool) (s : ByteArray) (k : Nat) (v : Value) (B : Nat) (w wr : World) : Prop := OwnBuf B 5 v (1 + (quo a s k).length) (.int .u8 39 :: cells8 (quo a s k)) w wr
theorem QB.next {a : Bool} {s : ByteArray} {k : Nat} {v' : Value} {B : Nat} {w w' : World} {cs : List Int} (hp : piece a s (ps s k) = cs) (m : Nat) (hm : m = cs.length)
    (h : OwnBuf B 5 v' (1 + (quo a s k).length + m) ((.int .u8 39 :: cells8 (quo a s k)) ++ cells8 cs) w w') : QB a s (k + 1) v' B w w' := by
  subst hm
  unfold QB
  rw [quo, hp]
  simpa [cells8, Nat.add_assoc] using h
theorem QB.grew {a : Bool} {s : ByteArray} {k : Nat} {B : Nat} {w w' : World} {cs : List Int} {e : Ending} (hp : piece a s (ps s k) = cs)
    (h : Grew B (1 + (quo a s k).length) (.int .u8 39 :: cells8 (quo a s k)) cs w e w') : ∃ v', e = .returned v' ∧ QB a s (k + 1) v' B w w' := by
  obtain ⟨v', h1, h2⟩ := h
  exact ⟨v', h1, QB.next hp _ rfl h2⟩
theorem pc_esc {a : Bool} {s : ByteArray} {p c n : Nat} (hD : Utf8.decode s p = (c, n)) (h : pr a c = false) : piece a s p = esc c := by rw [piece, hD]; simp [h]
theorem pc_raw {a : Bool} {s : ByteArray} {p c n : Nat} (hD : Utf8.decode s p = (c, n)) (h : pr a c = true) : piece a s p = raw s p n := by rw [piece, hD]; simp [h]
theorem pc_enc {a : Bool} {s : ByteArray} {p c n : Nat} (hD : Utf8.decode s p = (c, n)) (hg : GoodR s p) (h : pr a c = true) : piece a s p = enc c := by
  rw [pc_raw hD h]
  have := enc_good hg
  rw [hD] at this
  exact this.symm
theorem own_new (w : World) (c : Nat) (cs : Array Value) (hc : cs.size = c) (hm : c ≤ maxLen) : OwnBuf w.heap.size 5 (.slice (some ⟨w.heap.size, 0, none⟩) 0 c) 0 [] w (w.alloc (.cells cs 5)) :=
  ⟨⟨rfl, .inr ⟨w.heap.size, c, cs, (0, 0), rfl, Nat.le_refl _, heap_alloc_new _ _, Nat.le_refl _, Nat.zero_le _, hm, by simpa using hc, by simp⟩⟩, (Below.refl _ _).alloc (Nat.le_refl _) _, by simp⟩
theorem and1023 (d : Nat) (hd : d ≤ 1114111) : bits .and .i32 (d : Int) 1023 = (d : Int) % 1024 := by
  have m := bits_mask .i32 31 (by decide) wraps_i32 10 (by decide) d (by omega) (by omega)
  rw [show ((2 : Int) ^ 10 - 1) = 1023 from by decide] at m
  rw [m]
  simp
theorem appHexI (B : Nat) (v : Value) (n : Nat) (xs : List Value) (W0 w : World) (X : Int) (c : Nat) (hX : X = (c : Int)) (hc : c ≤ 65535) (hn : n ≤ 100000000) (hb : OwnBuf B 5 v n xs W0 w) :
    Calls Try.prog 20 #[v, .int .i32 X] w (Grew B n xs (hex4 c) W0) := by subst hX; exact appHex B v n xs W0 w c hc hn hb
/-- The call hands back the quoted text. -/
def Quoted (a : Bool) (s : ByteArray) (w : World) (e : Ending) (w' : World) : Prop := ∃ (v' : Value) (cs : List Int) (k : Nat), cs = [39] ++ quo a s k ++ [39] ∧ ¬ ps s k < s.size ∧ (∀ j, j < k → ps s j < s.size) ∧ e = .returned v' ∧ OwnBuf w.heap.size 5 v' cs.length (cells8 cs) w w'
theorem quoted {a : Bool} {s : ByteArray} {k : Nat} {w w' : World} {v' : Value} (h1 : ¬ ps s k < s.size) (h2 : ∀ j, j < k → ps s j < s.size) (h : OwnBuf w.heap.size 5 v' (1 + (quo a s k).length + 1) ((.int .u8 39 :: cells8 (quo a s k)) ++ cells8 [39]) w w') : Quoted a s w (.returned v') w' := by
  refine ⟨v', _, k, rfl, h1, h2, rfl, ?_⟩
  have e : ([39] ++ quo a s k ++ [39]).length = 1 + (quo a s k).length + 1 := by simp; omega
  rw [e]
  simpa [cells8] using h
set_option maxRecDepth 20000 in
set_option maxHeartbeats 8000000 in
theorem model (a : Bool) (s : ByteArray) (w : World) (hs : s.size ≤ 1048576) (hV : Valid s) : Calls Try.prog 9 #[.string s, .bool a, .int .u8 39] w (Quoted a s w) := by
  obtain ⟨i0, hi, hz0, hz1, hz2⟩ := info_parts info8
  replace hi := Lib.hid hi
  have hmk : (Instr.makeSlice 24 (.int .i64 0) (.int .i64 2)).run Try.prog w = _ := Ints.run_make_rowN (P := Try.prog) 24 5 i0 (.int .u8 0) Try.underlying24 hi.out hz0 .i64 .i64 0 2 (by omega) (by omega) (by omega) w
  have hn0 := Lib.hid (own_new w 2 (madeCells (Value.int .u8 0).cells (2 * i0.size)) (by rw [hz1, size_madeCells]) (by decide))
  generalize madeCells (Value.int .u8 0).cells (2 * i0.size) = C0 at *
  go_enter Try.func9, Try.ntmps9
  go_wp2_with (at_builtin; refine wpList_append_many rfl (.tmp 14) (.tmp 16) _ rfl w.heap.size 5 i0 Try.underlying24 hi.out hz0 hz1 hz2 (.slice (some ⟨w.heap.size, 0, none⟩) 0 2) 0 [] rfl w (w.alloc (.cells C0 5)) [39] hn0.out 1 rfl (by rw [World.size_alloc]; rfl) (by omega) ?_; intro v1 w1 hb1)
  go_loopg [7, 8] s.size (fun g bv iv wr => ∃ k : Nat, iv = .int .i64 (ps s k) ∧ ps s k ≤ s.size ∧ s.size ≤ ps s k + g ∧ (∀ j, j < k → ps s j < s.size) ∧ QB a s k bv w.heap.size w wr)
  case atStart => exact ⟨0, rfl, Nat.zero_le _, by simp [ps], fun j hj => by omega, hb1⟩
  case round =>
    obtain ⟨k, rfl, hle, hg, hc, hq⟩ := hrel
    clear hb1 hn0 hmk
    have hkp := ps_ge s k hc
    have hql := quo_len a s k
    have nx : ∀ cs, piece a s (ps s k) = cs → ∀ v' w' m, m = cs.length → OwnBuf w.heap.size 5 v' (1 + (quo a s k).length + m) ((.int .u8 39 :: cells8 (quo a s k)) ++ cells8 cs) w w' → QB a s (k + 1) v' w.heap.size w w' := fun cs h v' w' m hm hb => QB.next h m hm hb
    have fin : ¬ ps s k < s.size → ∀ v' w', OwnBuf w.heap.size 5 v' (1 + (quo a s k).length + 1) ((.int .u8 39 :: cells8 (quo a s k)) ++ cells8 [39]) w w' → Quoted a s w (.returned v') w' := fun h v' w' hb => quoted h hc hb
    unfold QB at hq
    have hN : 1 + (quo a s k).length ≤ 99000000 := by omega
    generalize 1 + (quo a s k).length = N at *
    generalize (Value.int IntKind.u8 39 :: cells8 (quo a s k)) = xs at *
    replace nx := Lib.hid nx
    replace fin := Lib.hid fin
    replace hq := Lib.hid hq
    clear hql
    by_cases hp : ps s k < s.size
    · have hw := Hash.width_pos s (ps s k) hp
      have hle2 := ps_le s k hp
      have e1 : ps s (k + 1) = ps s k + (Utf8.decode s (ps s k)).2 := rfl
      rw [e1] at hle2
      have hgd := hV k hp
      have hrl := rune_le hgd
      have hsu := (Dec.dec_facts s (ps s k) hp).2.2
      have hz := zd s (ps s k) wr hs hp
      obtain ⟨g', rfl⟩ : ∃ g', gk = g' + 1 := ⟨gk - 1, by omega⟩
      have e2 : ∀ j, j < k + 1 → ps s j < s.size := fun j hj => by
        by_cases hjk : j = k
        · rw [hjk]; exact hp
        · exact hc j (by omega)
      have c0 : (ps s k : Int) < (s.size : Int) := by omega
      replace e1 := Lib.hid e1
      replace e2 := Lib.hid e2
      replace hz := Lib.hid hz
      replace hgd := Lib.hid hgd
      clear hc hkp
      generalize hD : Utf8.decode s (ps s k) = D at *
      replace hD := Lib.hid hD
      generalize hpk : ps s k = p at *
      replace hpk := Lib.hid hpk
      obtain ⟨c, n⟩ := D
      dsimp only at hw hle2 hrl hsu e1
      go_wp2_with fail
      go_at_call 18
      refine hz.out.mono ?_
      rintro e w' ⟨rfl, ⟨_, rfl⟩ | ⟨hb, _⟩⟩
      rotate_left 1
      · exact absurd hgd.out hb
      rw [hD.out]
      dsimp only
      clear hz
      by_cases h8 : c = 8
      · subst h8
        have hpc := Lib.hid (nx.out [92, 98] (by rw [pc_esc hD.out (by simp [pr])]; rfl))
        go_wp2_with (at_builtin; refine wpList_append_many rfl (.tmp 33) (.tmp 34) _ rfl w.heap.size 5 i0 Try.underlying24 hi.out hz0 hz1 hz2 u7 N xs rfl w wr [92, 98] hq.out 2 rfl rfl (by omega) ?_; intro v' w' hb')
        go_roundg g'
        case measure => omega
        case rel => exact ⟨k + 1, by rw [e1.out]; simp, by rw [e1.out]; omega, by rw [e1.out]; omega, e2.out, hpc.out _ _ 2 rfl hb'⟩
      have i8 : ¬ (c : Int) = 8 := by omega
      by_cases h12 : c = 12
      · subst h12
        have hpc := Lib.hid (nx.out [92, 102] (by rw [pc_esc hD.out (by simp [pr])]; rfl))
        go_wp2_with (at_builtin; refine wpList_append_many rfl (.tmp 38) (.tmp 39) _ rfl w.heap.size 5 i0 Try.underlying24 hi.out hz0 hz1 hz2 u7 N xs rfl w wr [92, 102] hq.out 2 rfl rfl (by omega) ?_; intro v' w' hb')
        go_roundg g'
        case measure => omega
        case rel => exact ⟨k + 1, by rw [e1.out]; simp, by rw [e1.out]; omega, by rw [e1.out]; omega, e2.out, hpc.out _ _ 2 rfl hb'⟩
      have i12 : ¬ (c : Int) = 12 := by omega
      by_cases h10 : c = 10
      · subst h10
        have hpc := Lib.hid (nx.out [92, 110] (by rw [pc_esc hD.out (by simp [pr])]; rfl))
        go_wp2_with (at_builtin; refine wpList_append_many rfl (.tmp 43) (.tmp 44) _ rfl w.heap.size 5 i0 Try.underlying24 hi.out hz0 hz1 hz2 u7 N xs rfl w wr [92, 110] hq.out 2 rfl rfl (by omega) ?_; intro v' w' hb')
        go_roundg g'
        case measure => omega
        case rel => exact ⟨k + 1, by rw [e1.out]; simp, by rw [e1.out]; omega, by rw [e1.out]; omega, e2.out, hpc.out _ _ 2 rfl hb'⟩
      have i10 : ¬ (c : Int) = 10 := by omega
      by_cases h13 : c = 13
      · subst h13
        have hpc := Lib.hid (nx.out [92, 114] (by rw [pc_esc hD.out (by simp [pr])]; rfl))
        go_wp2_with (at_builtin; refine wpList_append_many rfl (.tmp 48) (.tmp 49) _ rfl w.heap.size 5 i0 Try.underlying24 hi.out hz0 hz1 hz2 u7 N xs rfl w wr [92, 114] hq.out 2 rfl rfl (by omega) ?_; intro v' w' hb')
        go_roundg g'
        case measure => omega
        case rel => exact ⟨k + 1, by rw [e1.out]; simp, by rw [e1.out]; omega, by rw [e1.out]; omega, e2.out, hpc.out _ _ 2 rfl hb'⟩
      have i13 : ¬ (c : Int) = 13 := by omega
      by_cases h9 : c = 9
      · subst h9
        have hpc := Lib.hid (nx.out [92, 116] (by rw [pc_esc hD.out (by simp [pr])]; rfl))
        go_wp2_with (at_builtin; refine wpList_append_many rfl (.tmp 53) (.tmp 54) _ rfl w.heap.size 5 i0 Try.underlying24 hi.out hz0 hz1 hz2 u7 N xs rfl w wr [92, 116] hq.out 2 rfl rfl (by omega) ?_; intro v' w' hb')
        go_roundg g'
        case measure => omega
        case rel => exact ⟨k + 1, by rw [e1.out]; simp, by rw [e1.out]; omega, by rw [e1.out]; omega, e2.out, hpc.out _ _ 2 rfl hb'⟩
      have i9 : ¬ (c : Int) = 9 := by omega
      by_cases h92 : c = 92
      · subst h92
        have hpc := Lib.hid (nx.out [92, 92] (by rw [pc_esc hD.out (by simp [pr])]; rfl))
        go_wp2_with (at_builtin; refine wpList_append_many rfl (.tmp 58) (.tmp 59) _ rfl w.heap.size 5 i0 Try.underlying24 hi.out hz0 hz1 hz2 u7 N xs rfl w wr [92, 92] hq.out 2 rfl rfl (by omega) ?_; intro v' w' hb')
        go_roundg g'
        case measure => omega
        case rel => exact ⟨k + 1, by rw [e1.out]; simp, by rw [e1.out]; omega, by rw [e1.out]; omega, e2.out, hpc.out _ _ 2 rfl hb'⟩
      have i92 : ¬ (c : Int) = 92 := by omega
      by_cases h34 : c = 34
      · subst h34
        have hpc := Lib.hid (nx.out [34] (by rw [pc_esc hD.out (by simp [pr])]; rfl))
        go_wp2_with (at_builtin; refine wpList_append_many rfl (.tmp 68) (.tmp 69) _ rfl w.heap.size 5 i0 Try.underlying24 hi.out hz0 hz1 hz2 u7 N xs rfl w wr [34] hq.out 1 rfl rfl (by omega) ?_; intro v' w' hb')
        go_roundg g'
        case measure => omega
        case rel => exact ⟨k + 1, by rw [e1.out]; simp, by rw [e1.out]; omega, by rw [e1.out]; omega, e2.out, hpc.out _ _ 1 rfl hb'⟩
      have i34 : ¬ (c : Int) = 34 := by omega
      by_cases h32 : c < 32
      · have i32 : (c : Int) < 32 := by omega
        have hpc := Lib.hid (nx.out (hex4 c) (by rw [pc_esc hD.out (by simp [pr, show c ≤ 126 from by omega, show ¬ 32 ≤ c from by omega]), esc, if_neg h8, if_neg h12, if_neg h10, if_neg h13, if_neg h9, if_neg h92, if_neg h34, if_pos (by omega)]))
        go_wp2_with fail
        go_at_call 20
        refine (appHex w.heap.size u7 N xs w wr c (by omega) (by omega) hq.out).mono ?_
        rintro e w' ⟨v', rfl, hb'⟩
        go_wp2_with fail
        go_roundg g'
        case measure => omega
        case rel => exact ⟨k + 1, by rw [e1.out]; simp, by rw [e1.out]; omega, by rw [e1.out]; omega, e2.out, hpc.out _ _ _ rfl hb'⟩
      have i32 : ¬ (c : Int) < 32 := by omega
      by_cases h127 : c < 127
      · have i127 : (c : Int) < 127 := by omega
        have hob := one_byte hgd.out (by rw [hD.out]; show c < 128; omega)
        rw [hD.out] at hob
        dsimp only at hob
        obtain ⟨rfl, hob⟩ := hob
        have hpc := Lib.hid (nx.out [(c : Int)] (by rw [pc_raw hD.out (by simp [pr, show c ≤ 126 from by omega, show 32 ≤ c from by omega, h92, h34])]; simp [raw, hob]))
        go_wp2_with (at_builtin; refine wpList_append_many rfl (.tmp 78) (.tmp 81) _ rfl w.heap.size 5 i0 Try.underlying24 hi.out hz0 hz1 hz2 u7 N xs rfl w wr [(c : Int)] hq.out 1 rfl rfl (by omega) ?_; intro v' w' hb')
        go_roundg g'
        case measure => omega
        case rel => exact ⟨k + 1, by rw [e1.out]; simp, by rw [e1.out]; omega, by rw [e1.out]; omega, e2.out, hpc.out _ _ 1 rfl hb'⟩
      have i127 : ¬ (c : Int) < 127 := by omega
      have hlow : ¬ c ≤ 126 := by omega
      have hesc : esc c = if c ≤ 65535 then hex4 c else hex4 (55296 + (c - 65536) / 1024) ++ hex4 (56320 + (c - 65536) % 1024) := by rw [esc, if_neg h8, if_neg h12, if_neg h10, if_neg h13, if_neg h9, if_neg h92, if_neg h34]
      cases a
      · by_cases hF : c = 65279
        · subst hF
          have hpc := Lib.hid (nx.out (hex4 65279) (by rw [pc_esc hD.out (by simp [pr]), hesc, if_pos (by decide)]))
          clear hesc
          go_wp2_with fail
          go_at_call 20
          refine (appHex w.heap.size u7 N xs w wr 65279 (by omega) (by omega) hq.out).mono ?_
          rintro e w' ⟨v', rfl, hb'⟩
          go_wp2_with fail
          go_roundg g'
          case measure => omega
          case rel => exact ⟨k + 1, by rw [e1.out]; simp, by rw [e1.out]; omega, by rw [e1.out]; omega, e2.out, hpc.out _ _ _ rfl hb'⟩
        · have iF : ¬ (c : Int) = 65279 := by omega
          have hpc := Lib.hid (nx.out (enc c) (pc_enc hD.out hgd.out (by simp [pr, hlow, hF])))
          clear hesc
          go_wp2_with fail
          go_at_call 21
          refine (appU w.heap.size u7 N xs w wr (by omega) hq.out c hrl).mono ?_
          rintro e w' ⟨v', rfl, hb'⟩
          go_wp2_with fail
          go_roundg g'
          case measure => omega
          case rel => exact ⟨k + 1, by rw [e1.out]; simp, by rw [e1.out]; omega, by rw [e1.out]; omega, e2.out, hpc.out _ _ _ rfl hb'⟩
      · have hpr : pr true c = false := by simp [pr, hlow]
        by_cases hB : c ≤ 65535
        · have iB : (c : Int) ≤ 65535 := by omega
          have hpc := Lib.hid (nx.out (hex4 c) (by rw [pc_esc hD.out hpr, hesc, if_pos hB]))
          clear hesc
          go_wp2_with fail
          go_at_call 20
          refine (appHex w.heap.size u7 N xs w wr c (by omega) (by omega) hq.out).mono ?_
          rintro e w' ⟨v', rfl, hb'⟩
          go_wp2_with fail
          go_roundg g'
          case measure => omega
          case rel => exact ⟨k + 1, by rw [e1.out]; simp, by rw [e1.out]; omega, by rw [e1.out]; omega, e2.out, hpc.out _ _ _ rfl hb'⟩
        · have iB : ¬ (c : Int) ≤ 65535 := by omega
          obtain ⟨d, hcd⟩ : ∃ d, d = c - 65536 := ⟨_, rfl⟩
          have hpc := Lib.hid (nx.out (hex4 (55296 + d / 1024) ++ hex4 (56320 + d % 1024)) (by rw [pc_esc hD.out hpr, hesc, if_neg hB, ← hcd]))
          have ia : bits .and .i32 ((c : Int) - 65536) 1023 = ((c : Int) - 65536) % 1024 := by
            rw [show (c : Int) - 65536 = (d : Int) from by omega]
            exact and1023 d (by omega)
          have hd : (c : Int) - 65536 = (d : Int) := by omega
          have hd2 : d ≤ 1048575 := by omega
          replace hd := Lib.hid hd
          clear hesc h8 h12 h10 h13 h9 h92 h34 h32 h127 hlow hB hcd
          go_wp2_with fail
          go_at_call 20
          refine (appHexI w.heap.size u7 N xs w wr _ (55296 + d / 1024) (by rw [hd.out]; simp) (by omega) (by omega) hq.out).mono ?_
          rintro e w' ⟨v', rfl, hb'⟩
          have l1 : (hex4 (55296 + d / 1024)).length = 6 := rfl
          have l2 : (hex4 (56320 + d % 1024)).length = 6 := rfl
          replace hb' := Lib.hid hb'
          go_wp2_with fail
          go_at_call 20
          refine (appHexI w.heap.size v' _ _ w w' _ (56320 + d % 1024) (by rw [hd.out]; simp) (by omega) (by omega) hb'.out).mono ?_
          rintro e w'' ⟨v'', rfl, hb''⟩
          have hqn := hpc.out v'' w'' _ rfl (by rw [List.length_append, ← Nat.add_assoc]; simpa [cells8] using hb'')
          replace hqn := Lib.hid hqn
          go_wp2_with fail
          go_roundg g'
          case measure => omega
          case rel => exact ⟨k + 1, by rw [e1.out]; simp, by rw [e1.out]; omega, by rw [e1.out]; omega, e2.out, hqn.out⟩
    · have c0 : ¬ (ps s k : Int) < (s.size : Int) := by omega
      replace fin := Lib.hid (fin.out hp)
      go_wp2_with (at_builtin; refine wpList_append_many rfl (.tmp 111) (.tmp 113) _ rfl w.heap.size 5 i0 Try.underlying24 hi.out hz0 hz1 hz2 u7 N xs rfl w wr [39] hq.out 1 rfl rfl (by omega) ?_; intro v' w' hb')
      go_ret
      exact fin.out _ _ hb'
end Go.Proofs.Ytgeijelkojgapaa.QuoN
