/-
  The parser that is made for the relocation law. Condition: at most 65536 symbols.
-/
import Derived.Test.YtdiedidmjpihjaaRlH
import Derived.WalkLawsBesides
import Derived.WalkSpells
import Derived.Laws.MakeOwn
namespace Go.Proofs.Ytdiedidmjpihjaa.Rl
open Go.RowKit Go.ChangeShapes Go.WideShapes Go.ChangeAt Go.Proofs.Ytdiedidmjpihjaa.Ints

def zs : Array Value := #[.pointer none, .string ByteArray.empty, .int .u32 0, .int .u32 0, .int .u32 0, .int .u32 0, .int .u32 0, .int .u16 0, .int .u8 0, .int .u8 0]
theorem infoSym : (Try.prog.info? 197).map (fun i => (i.zero, i.size, i.bytes)) = some (some (.agg zs), 10, 48) := by kernel_rfl
theorem makeS (n : Nat) (hn : n ≤ 65536) (w : World) : (Instr.makeSlice 141 (.int .i64 (n : Int)) (.int .i64 (n : Int))).run Try.prog w =
    .ok (.slice (some ⟨w.heap.size, 0, none⟩) n n) (w.alloc (.cells (madeCells zs (n * 10)) 197)) := by
  obtain ⟨i, hi, hz, hs, hb⟩ := info_parts infoSym
  have h := run_make_rowN (P := Try.prog) 141 197 i _ Try.underlying141 hi hz .i64 .i64 n n (Nat.le_refl _) (by rw [hb]; omega) (by omega) w
  rw [hs] at h
  exact h
theorem made_syms (w : World) (n : Nat) : ∃ G, (w.alloc (.cells (madeCells zs (n * 10)) 197)).rowIs w.heap.size 197 (n * 10) G ∧ ∀ i, i < n → G (i * 10 + 4) = .int .u32 (0 : Nat) := by
  refine ⟨fun i => (madeCells zs (n * 10)).getD i undef, ?_, fun i hi => ?_⟩
  · have h := World.rowIs_alloc w (madeCells zs (n * 10)) 197 (fun i => (madeCells zs (n * 10)).getD i undef) (fun i hi => by simp [Array.getD, hi])
    rwa [size_madeCells] at h
  · have h1 : i * 10 + 4 < n * 10 := by omega
    have h2 : (i * 10 + 4) % 10 = 4 := by omega
    simp [madeCells, h1, zs, h2]
def parts (g n cur mo : Nat) (d : Int) : List (Nat × Value) := [(7, .pointer (some ⟨cur, 0, none⟩)), (58, .pointer (some ⟨mo, 0, none⟩)), (97, .int .i64 d), (9, .slice (some ⟨g, 0, none⟩) n n)]
theorem built_some (g n cur mo : Nat) (d : Int) : (Try.prog.built 191 (parts g n cur mo d)).isSome = true := by kernel_rfl
theorem parser_cells (g n cur mo : Nat) (d : Int) : ∃ C : Array Value, Try.prog.built 191 (parts g n cur mo d) = some C ∧ C.size = 353 ∧ C[32]? = some (.bool false) ∧ C[105]? = some (.pointer none) ∧ C[350]? = some (.bool false) ∧
    C[106]? = some (.slice (some ⟨g, 0, none⟩) n n) ∧ C[196]? = some (.slice none 0 0) ∧ C[104]? = some (.pointer (some ⟨cur, 0, none⟩)) ∧ C[187]? = some (.pointer (some ⟨mo, 0, none⟩)) ∧ C[339]? = some (.int .i64 d) := by
  obtain ⟨C, hC⟩ := Option.isSome_iff_exists.1 (built_some g n cur mo d)
  have h2 : (Try.prog.built 191 (parts g n cur mo d)).map (·.size) = some 353 := by kernel_rfl
  have h3 : (Try.prog.built 191 (parts g n cur mo d)).bind (·[32]?) = some (.bool false) := by kernel_rfl
  have h4 : (Try.prog.built 191 (parts g n cur mo d)).bind (·[105]?) = some (.pointer none) := by kernel_rfl
  have h5 : (Try.prog.built 191 (parts g n cur mo d)).bind (·[350]?) = some (.bool false) := by kernel_rfl
  have h6 : (Try.prog.built 191 (parts g n cur mo d)).bind (·[106]?) = some (.slice (some ⟨g, 0, none⟩) n n) := by kernel_rfl
  have h7 : (Try.prog.built 191 (parts g n cur mo d)).bind (·[196]?) = some (.slice none 0 0) := by kernel_rfl
  have h8 : (Try.prog.built 191 (parts g n cur mo d)).bind (·[104]?) = some (.pointer (some ⟨cur, 0, none⟩)) := by kernel_rfl
  have h9 : (Try.prog.built 191 (parts g n cur mo d)).bind (·[187]?) = some (.pointer (some ⟨mo, 0, none⟩)) := by kernel_rfl
  have h0 : (Try.prog.built 191 (parts g n cur mo d)).bind (·[339]?) = some (.int .i64 d) := by kernel_rfl
  rw [hC] at h2 h3 h4 h5 h6 h7 h8 h9 h0
  exact ⟨C, hC, by simpa using h2, h3, h4, h5, h6, h7, h8, h9, h0⟩
def NewP (B n cur mo : Nat) (m d : Int) (w : World) (e : Ending) (w' : World) : Prop :=
  ∃ F, e = .returned (.pointer (some ⟨w.heap.size + 1, 0, none⟩)) ∧ Pa B (w.heap.size + 1) w.heap.size n F (fun _ => 0) (.slice none 0 0) 0 [] w' ∧ Hd (w.heap.size + 1) cur mo m d w' ∧ Below w.heap.size w w' ∧ w'.heap.size = w.heap.size + 1 + 1
theorem new_fin {B n cur mo : Nat} {m d : Int} {w : World} {C : Array Value} (hB : B ≤ w.heap.size) (hs : C.size = 353) (h1 : C[32]? = some (.bool false)) (h2 : C[105]? = some (.pointer none)) (h3 : C[350]? = some (.bool false))
    (h4 : C[106]? = some (.slice (some ⟨w.heap.size, 0, none⟩) n n)) (h5 : C[196]? = some (.slice none 0 0)) (h6 : C[104]? = some (.pointer (some ⟨cur, 0, none⟩))) (h7 : C[187]? = some (.pointer (some ⟨mo, 0, none⟩))) (h8 : C[339]? = some (.int .i64 d)) (h9 : C[34]? = some (.int .u8 m)) :
    NewP B n cur mo m d w (.returned (.pointer (some ⟨w.heap.size + 1, 0, none⟩))) ((w.alloc (.cells (madeCells zs (n * 10)) 197)).alloc (.cells C 191)) := by
  have e : ∀ k v, C[k]? = some v → C.getD k undef = v := fun k v h => by
    obtain ⟨hl, he⟩ := Array.getElem?_eq_some_iff.1 h
    simp [Array.getD, hl, he]
  have hr := World.rowIs_alloc (w.alloc (.cells (madeCells zs (n * 10)) 197)) C 191 (fun j => C.getD j undef) (fun i hi => by simp [Array.getD, hi])
  have hsz : (w.alloc (.cells (madeCells zs (n * 10)) 197)).heap.size = w.heap.size + 1 := by simp
  rw [hs, hsz] at hr
  obtain ⟨G, hG, hg⟩ := made_syms w n
  have c : ∀ {k : Nat} {v : Value}, C[k]? = some v → k < 353 → ((w.alloc (.cells (madeCells zs (n * 10)) 197)).alloc (.cells C 191)).cell? ⟨w.heap.size + 1, k, none⟩ = some v := fun {k v} h hk => e _ _ h ▸ hr.cell (i := k) hk
  exact ⟨_, rfl, ⟨hr, e _ _ h1, e _ _ h2, e _ _ h3, e _ _ h4, e _ _ h5, World.ownsRow_nil _ _ _ _, ⟨G, hG.of_block (Below.heap_alloc _ _ _ hG.lt), hg⟩, by omega, hB⟩, ⟨c h9 (by omega), c h6 (by omega), c h7 (by omega), c h8 (by omega)⟩, two_alloc _ _ _, by simp⟩
set_option maxRecDepth 100000 in
set_option maxHeartbeats 4000000 in
theorem newParser (B n cur mo : Nat) (m d : Int) (w : World) (hB : B ≤ w.heap.size) (hn : n ≤ 65536) :
    Calls Try.prog 11 #[.int .u8 m, .pointer (some ⟨cur, 0, none⟩), .pointer (some ⟨mo, 0, none⟩), .int .i64 d, .int .i64 n] w (NewP B n cur mo m d w) := by
  obtain ⟨C, hC, hs, h1, h2, h3, h4, h5, h6, h7, h8⟩ := parser_cells w.heap.size n cur mo d
  have hmk := makeS n hn
  replace hC := Lib.hid hC
  have hA := Lib.hid (And.intro h1 (And.intro h2 (And.intro h3 (And.intro h4 (And.intro h5 (And.intro h6 (And.intro h7 h8)))))))
  clear h1 h2 h3 h4 h5 h6 h7 h8
  go_enter Try.func11, Try.ntmps11
  go_wp2_with (refine wpList_buildTo2 rfl 191 _ rfl _ rfl (parts w.heap.size n cur mo d) (by kernel_rfl) C hC.out ?_)
  obtain ⟨h1, h2, h3, h4, h5, h6, h7, h8⟩ := hA.out
  have e : ∀ k v, k ≠ 34 → C[k]? = some v → (C.setIfInBounds 34 (.int .u8 m))[k]? = some v := fun k v hk h => by
    rw [Array.getElem?_setIfInBounds]
    rw [if_neg (fun e => hk e.symm)]
    exact h
  have hfin := new_fin (m := m) hB (by simp [hs]) (e _ _ (by omega) h1) (e _ _ (by omega) h2) (e _ _ (by omega) h3) (e _ _ (by omega) h4) (e _ _ (by omega) h5) (e _ _ (by omega) h6) (e _ _ (by omega) h7) (e _ _ (by omega) h8) (by simp [hs])
  go_ret
  exact hfin
end Go.Proofs.Ytdiedidmjpihjaa.Rl
