/-
  FnApplyExtendedConfigCaseTable, walked: it returns true for every two configs. Condition: the numbers are of their kinds.
-/
import Derived.Test.YtodbjiiogjoogaaExt4
import Derived.Lib.Builder
namespace Go.Proofs.Ytodbjiiogjoogaa.fnApplyExtendedConfigCaseTable
open Go.RowKit Go.WideShapes Go.ChangeAt Go.ChangeShapes Go.Proofs.Ytodbjiiogjoogaa.Ints Go.Proofs.Ytodbjiiogjoogaa.Ext

theorem inf43 : Try.prog.info? 62 = some (Try.prog.info? 62).get! := by kernel_rfl
theorem inf25 : Try.prog.info? 9 = some (Try.prog.info? 9).get! := by kernel_rfl
theorem inf26 : Try.prog.info? 65 = some (Try.prog.info? 65).get! := by kernel_rfl
theorem neqP (t e : TypeId) (j : TypeInfo) (o : Option Addr) (hp : Try.prog.underlying t = some (.pointer e)) (hte : Try.prog.info? e = some j) (w : World) : (binOp .neq t (.pointer o) (.pointer o)).run Try.prog w = .ok (.bool false) w := by
  cases o with
  | none =>
    have h : ∀ d : Nat, (Op.equalIn (d + 1) t (.pointer none) (.pointer none)).run Try.prog w = .ok true w := fun d => by
      simp [Op.equalIn, run_underlying hp, sizeOf, typeInfo]
    simp only [binOp]
    simp [Op.equal, Op.maxDepth, h 9999]
  | some a => exact Go.Lib.run_neq_ptr_same w a hp hte
/-- The merged baseUrl and both configs' own. -/
def Urls (w : World) (m : Int) (q : Option Addr) (bu du : ByteArray) : Prop :=
  (bits .and .u8 m 4 ≠ 0 ∧ ∃ x, q = some ⟨x, 0, none⟩ ∧ w.cell? ⟨x, 0, none⟩ = some (.string bu)) ∨
  (bits .and .u8 m 4 = 0 ∧ q = none) ∨
  (bits .and .u8 m 4 = 0 ∧ ∃ x, q = some ⟨x, 0, none⟩ ∧ w.cell? ⟨x, 0, none⟩ = some (.string du))
theorem urls {w : World} {B D : Nat} {b : Bool} {m : Int} {dU bU : Option Addr} {du bu : ByteArray} (h1 : Url w D b dU du) (h2 : Url w B (bits .and .u8 m 4 != 0) bU bu) : Urls w m (orElse bU dU) bu du := by
  rcases h2 with ⟨h, rfl⟩ | ⟨h, x, hx, rfl, gx⟩
  · have h' : bits .and .u8 m 4 = 0 := by simpa using h
    rcases h1 with ⟨g, rfl⟩ | ⟨g, y, hy, rfl, gy⟩
    · exact .inr (.inl ⟨h', rfl⟩)
    · exact .inr (.inr ⟨h', y, rfl, gy⟩)
  · have h' : ¬ bits .and .u8 m 4 = 0 := by simpa using h
    exact .inl ⟨h', x, rfl, gx⟩

def SomeBool (w : World) (e : Ending) (w' : World) : Prop := ∃ r : Bool, e = .returned (.bool r) ∧ w = w'
def args (da dl du df ba bl bu bf : ByteArray) (dn dm bn bm : Int) : Array Value := #[.string da, .string dl, .int .i32 dn, .int .u8 dm, .string du, .string df, .string ba, .string bl, .int .i32 bn, .int .u8 bm, .string bu, .string bf]
set_option maxRecDepth 100000 in
theorem bytes (da dl du df ba bl bu bf : ByteArray) (dn dm bn bm : Int) (w : World) : Calls Try.prog 4 (args da dl du df ba bl bu bf dn dm bn bm) w (SomeBool w) := by
  unfold args
  go_enter Try.func4, Try.ntmps4
  go_wp2
  all_goals
    go_ret
    exact ⟨_, rfl, rfl⟩
set_option maxRecDepth 100000 in
set_option maxHeartbeats 2000000 in
theorem main (da dl du df ba bl bu bf : ByteArray) (dn dm bn bm : Int) (w : World) (h1 : -2147483648 ≤ dn ∧ dn ≤ 2147483647) (h2 : -2147483648 ≤ bn ∧ bn ≤ 2147483647) (h3 : 0 ≤ dm ∧ dm ≤ 255) (h4 : 0 ≤ bm ∧ bm ≤ 255) :
    Calls Try.prog 3 (args da dl du df ba bl bu bf dn dm bn bm) w fun e w' => e = .returned (.bool true) ∧ Below w.heap.size w w' := by
  have hby := bytes da dl du df ba bl bu bf dn dm bn bm w
  unfold args at hby ⊢
  replace hby := Lib.hid hby
  replace h1 := Lib.hid h1
  replace h2 := Lib.hid h2
  replace h3 := Lib.hid h3
  replace h4 := Lib.hid h4
  go_enter Try.func3, Try.ntmps3
  go_wp2_with fail
  refine hby.out.mono ?_
  rintro e w' ⟨r, rfl, rfl⟩
  cases r with
  | false =>
    go_wp2_with fail
    go_ret
    exact ⟨rfl, Below.refl _ _⟩
  | true =>
    go_wp2_with fail
    all_goals first | (go_ret; exact ⟨rfl, Below.refl _ _⟩) | skip
    go_at_call 5
    refine (mk da dl du df dn h1.out dm h3.out w).mono ?_
    rintro e w2 ⟨rfl, M1⟩
    obtain ⟨dU, dP, dS, dA, A1, b1, S1, T1, U1, P1⟩ := M1
    replace S1 := Lib.hid S1
    replace T1 := Lib.hid T1
    replace U1 := Lib.hid U1
    replace P1 := Lib.hid P1
    replace A1 := Lib.hid A1
    replace b1 := Lib.hid b1
    generalize hD : w.heap.size = D at *
    replace hD := Lib.hid hD
    go_wp2_with fail
    go_at_call 5
    refine (mk ba bl bu bf bn h2.out bm h4.out w2).mono ?_
    rintro e w3 ⟨rfl, M2⟩
    obtain ⟨bU, bP, bS, bA, A2, b2, S2, T2, U2, P2⟩ := M2
    have hDB : D < w2.heap.size := World.rowIs.lt A1.out
    have A1' : At w3 D da dU df dP dl dn dS dA := World.rowIs.of_block A1.out (b2.block _ hDB)
    have k12 : Kp D w2 w3 := fun b _ h => b2.block b h
    replace S1 := Lib.hid (S1.out.keep k12)
    replace T1 := Lib.hid (T1.out.keep k12)
    replace U1 := Lib.hid (U1.out.keep k12)
    replace b1 := Lib.hid (b1.out.trans (b2.mono (Nat.le_of_lt hDB)))
    clear A1 k12 b2
    generalize hB : w2.heap.size = B at *
    replace hB := Lib.hid hB
    replace S2 := Lib.hid S2
    replace T2 := Lib.hid T2
    replace U2 := Lib.hid U2
    replace P2 := Lib.hid P2
    have d17 : w3.cell? ⟨D, 17, none⟩ = some (.pointer dS) := World.rowIs.cell A1' (i := 17) (by omega)
    have d18 : w3.cell? ⟨D, 18, none⟩ = some (.pointer dA) := World.rowIs.cell A1' (i := 18) (by omega)
    have d1 : w3.cell? ⟨D, 1, none⟩ = some (.pointer dU) := World.rowIs.cell A1' (i := 1) (by omega)
    have d3 : w3.cell? ⟨D, 3, none⟩ = some (.pointer dP) := World.rowIs.cell A1' (i := 3) (by omega)
    obtain ⟨fr, hg⟩ := At.row A2
    unfold C at hg
    replace hg := Lib.hid hg
    replace A1' := Lib.hid A1'
    replace A2 := Lib.hid A2
    go_wp2_with (refine wpList_load_row rfl 54 _ rfl B rfl _ _ fr _ hg.out Try.underlying54 rfl sizeT ?_)
    go_at_call 6
    have hap := apply D da df dl ba bf bl dn bn dU dP dS dA bU bP bS bA w3 A1'.out
    unfold C at hap
    refine hap.mono ?_
    rintro e w4 ⟨rfl, A3, b3, kk⟩
    clear hap d17 d18 d1 d3
    have hBl : B < w3.heap.size := World.rowIs.lt A2.out
    have hBD : B ≠ D := by omega
    have A4 : At w4 B ba bU bf bP bl bn bS bA := World.rowIs.of_block A2.out (kk B hBl hBD)
    have kD : Kp D w3 w4 := fun b h h' => kk b h' (by omega)
    have kB : Kp B w3 w4 := fun b h h' => kk b h' (by omega)
    replace S1 := Lib.hid (S1.out.keep kD)
    replace T1 := Lib.hid (T1.out.keep kD)
    replace U1 := Lib.hid (U1.out.keep kD)
    replace S2 := Lib.hid (S2.out.keep kB)
    replace T2 := Lib.hid (T2.out.keep kB)
    replace U2 := Lib.hid (U2.out.keep kB)
    have hend : Below D w w4 := b1.out.trans b3
    clear b1 b3 kk kD kB A2 A1' hg
    replace hend := Lib.hid hend
    replace A3 := Lib.hid A3
    replace A4 := Lib.hid A4
    go_upto_if 150 with fail
    go_cut [31, 32] from 149 to 152 (fun x y wx => x = .string (pk bn bl dl) ∧ y = .int .i32 (pk bn bn dn) ∧ w4 = wx)
    case first =>
      by_cases hb : 0 < bn
      · go_wp2_with fail
        go_meet
        exact ⟨by rw [show pk bn bl dl = bl from if_pos hb], by rw [show pk bn bn dn = bn from if_pos hb], rfl⟩
      · go_wp2_with fail
        go_meet
        exact ⟨by rw [show pk bn bl dl = dl from if_neg (by omega)], by rw [show pk bn bn dn = dn from if_neg (by omega)], rfl⟩
    case rest =>
      obtain ⟨rfl, rfl, rfl⟩ := hcut
      go_upto_if 156 with fail
      go_cut [33] from 154 to 160 (fun x wx => x = .pointer (orElse bS dS) ∧ w4 = wx)
      case first =>
        have bc : w4.cell? ⟨B, 17, none⟩ = some (.pointer bS) := World.rowIs.cell A4.out (i := 17) (by omega)
        cases hq : (bits .and .u8 bm 1 != 0)
        · have hS : bS = none := by
            rcases S2.out with ⟨_, h⟩ | ⟨h, _⟩
            · exact h
            · rw [hq] at h; cases h
          subst hS
          replace hq := Lib.hid hq
          go_wp2_with fail
          go_meet
          exact ⟨rfl, rfl⟩
        · obtain ⟨x, hS⟩ : ∃ x, bS = some x := by
            rcases S2.out with ⟨h, _⟩ | ⟨_, x, _, h⟩
            · rw [hq] at h; cases h
            · first | exact ⟨_, h⟩ | exact ⟨_, h.1⟩
          subst hS
          replace hq := Lib.hid hq
          go_wp2_with fail
          go_meet
          exact ⟨rfl, rfl⟩
      case rest =>
        obtain ⟨rfl, rfl⟩ := hcut
        go_upto_if 164 with fail
        go_cut [34] from 162 to 168 (fun x wx => x = .pointer (orElse bA dA) ∧ w4 = wx)
        case first =>
          have bc : w4.cell? ⟨B, 18, none⟩ = some (.pointer bA) := World.rowIs.cell A4.out (i := 18) (by omega)
          cases hq : (bits .and .u8 bm 2 != 0)
          · have hS : bA = none := by
              rcases T2.out with ⟨_, h⟩ | ⟨h, _⟩
              · exact h
              · rw [hq] at h; cases h
            subst hS
            replace hq := Lib.hid hq
            go_wp2_with fail
            go_meet
            exact ⟨rfl, rfl⟩
          · obtain ⟨x, hS⟩ : ∃ x, bA = some x := by
              rcases T2.out with ⟨h, _⟩ | ⟨_, x, _, h⟩
              · rw [hq] at h; cases h
              · first | exact ⟨_, h⟩ | exact ⟨_, h.1⟩
            subst hS
            replace hq := Lib.hid hq
            go_wp2_with fail
            go_meet
            exact ⟨rfl, rfl⟩
        case rest =>
          obtain ⟨rfl, rfl⟩ := hcut
          go_upto_if 172 with fail
          go_cut [35] from 170 to 176 (fun x wx => x = .pointer (orElse bU dU) ∧ w4 = wx)
          case first =>
            have bc : w4.cell? ⟨B, 1, none⟩ = some (.pointer bU) := World.rowIs.cell A4.out (i := 1) (by omega)
            cases hq : (bits .and .u8 bm 4 != 0)
            · have hS : bU = none := by
                rcases U2.out with ⟨_, h⟩ | ⟨h, _⟩
                · exact h
                · rw [hq] at h; cases h
              subst hS
              replace hq := Lib.hid hq
              go_wp2_with fail
              go_meet
              exact ⟨rfl, rfl⟩
            · obtain ⟨x, hS⟩ : ∃ x, bU = some x := by
                rcases U2.out with ⟨h, _⟩ | ⟨_, x, _, h⟩
                · rw [hq] at h; cases h
                · first | exact ⟨_, h⟩ | exact ⟨_, h.1⟩
              subst hS
              replace hq := Lib.hid hq
              go_wp2_with fail
              go_meet
              exact ⟨rfl, rfl⟩
          case rest =>
            obtain ⟨rfl, rfl⟩ := hcut
            go_upto_if 181 with fail
            go_cut [36, 37] from 179 to 186 (fun x y wx => x = .pointer (orElse bP dP) ∧ y = .string (pf bP bf df) ∧ w4 = wx)
            case first =>
              have bc : w4.cell? ⟨B, 3, none⟩ = some (.pointer bP) := World.rowIs.cell A4.out (i := 3) (by omega)
              have bf2 : w4.cell? ⟨B, 2, none⟩ = some (.string bf) := World.rowIs.cell A4.out (i := 2) (by omega)
              cases hq : (bits .and .u8 bm 8 != 0)
              · have hS : bP = none := by
                  rcases P2.out with ⟨_, h⟩ | ⟨h, _⟩
                  · exact h
                  · rw [hq] at h; cases h
                subst hS
                replace hq := Lib.hid hq
                go_wp2_with fail
                go_meet
                exact ⟨rfl, rfl, rfl⟩
              · obtain ⟨x, hS⟩ : ∃ x, bP = some x := by
                  rcases P2.out with ⟨h, _⟩ | ⟨_, x, _, h⟩
                  · rw [hq] at h; cases h
                  · first | exact ⟨_, h⟩ | exact ⟨_, h.1⟩
                subst hS
                replace hq := Lib.hid hq
                go_wp2_with fail
                go_meet
                exact ⟨rfl, rfl, rfl⟩
            case rest =>
              obtain ⟨rfl, rfl, rfl⟩ := hcut
              have n43 := neqP 43 62 _ (orElse bS dS) Try.underlying43 inf43
              have n43b := neqP 43 62 _ (orElse bA dA) Try.underlying43 inf43
              have n25 := neqP 25 9 _ (orElse bU dU) Try.underlying25 inf25
              have n26 := neqP 26 65 _ (orElse bP dP) Try.underlying26 inf26
              have hu := Lib.hid (urls U1.out U2.out)
              generalize hqU : orElse bU dU = qU at *
              generalize hqS : orElse bS dS = qS at *
              generalize hqA : orElse bA dA = qA at *
              generalize hqP : orElse bP dP = qP at *
              generalize hqf : pf bP bf df = qf at *
              generalize hql : pk bn bl dl = ql at *
              generalize hqn : pk bn bn dn = qn at *
              replace hqU := Lib.hid hqU
              replace hqS := Lib.hid hqS
              replace hqA := Lib.hid hqA
              replace hqP := Lib.hid hqP
              replace hqf := Lib.hid hqf
              replace hql := Lib.hid hql
              replace hqn := Lib.hid hqn
              have e0 : w4.cell? ⟨D, 0, none⟩ = some (.string da) := World.rowIs.cell A3.out (i := 0) (by omega)
              have e1 : w4.cell? ⟨D, 1, none⟩ = some (.pointer qU) := World.rowIs.cell A3.out (i := 1) (by omega)
              have e2 : w4.cell? ⟨D, 2, none⟩ = some (.string qf) := World.rowIs.cell A3.out (i := 2) (by omega)
              have e3 : w4.cell? ⟨D, 3, none⟩ = some (.pointer qP) := World.rowIs.cell A3.out (i := 3) (by omega)
              have e17 : w4.cell? ⟨D, 17, none⟩ = some (.pointer qS) := World.rowIs.cell A3.out (i := 17) (by omega)
              have e18 : w4.cell? ⟨D, 18, none⟩ = some (.pointer qA) := World.rowIs.cell A3.out (i := 18) (by omega)
              go_wp2_with fail
              go_at_call 7
              refine (lower _ _ _ _ _ _ _ _ _ _ A3.out).mono ?_
              rintro e w' ⟨rfl, rfl⟩
              go_wp2_with fail
              go_at_call 8
              refine (keyLen _ _ _ _ _ _ _ _ _ _ A3.out).mono ?_
              rintro e w' ⟨rfl, rfl⟩
              go_upto_region 43 with fail
              go_cut [258] from 239 to 258 (fun x wx => x = .bool false ∧ w4 = wx)
              case first =>
                rcases hu.out with ⟨h4, x, rfl, gx⟩ | ⟨h4, rfl⟩ | ⟨h4, x, rfl, gx⟩
                · go_wp2_with fail
                  go_meet
                  exact ⟨rfl, rfl⟩
                · go_wp2_with fail
                  go_meet
                  exact ⟨rfl, rfl⟩
                · go_wp2_with fail
                  go_meet
                  exact ⟨rfl, rfl⟩
              case rest =>
                obtain ⟨rfl, rfl⟩ := hcut
                go_upto_region 45 with fail
                go_cut [278] from 259 to 278 (fun x wx => x = .bool false ∧ w4 = wx)
                case first =>
                  rcases hu.out with ⟨h4, x, rfl, gx⟩ | ⟨h4, rfl⟩ | ⟨h4, x, rfl, gx⟩
                  · go_wp2_with fail
                    go_meet
                    exact ⟨rfl, rfl⟩
                  · go_wp2_with fail
                    go_meet
                    exact ⟨rfl, rfl⟩
                  · go_wp2_with fail
                    go_meet
                    exact ⟨rfl, rfl⟩
                case rest =>
                  obtain ⟨rfl, rfl⟩ := hcut
                  clear e0 e1 e2 e3 e17 e18 n43 n43b n25 n26 hu
                  go_wp2_with fail
                  go_at_call 9
                  refine (untouched _ _ _ _ _ _ _ _ _ _ A3.out).mono ?_
                  rintro e w5 ⟨rfl, b5⟩
                  have hBs : B < w4.heap.size := World.rowIs.lt A4.out
                  have hDs : D < w4.heap.size := World.rowIs.lt A3.out
                  have A4' : At w5 B ba bU bf bP bl bn bS bA := World.rowIs.of_block A4.out (b5.block _ hBs)
                  have kx : ∀ X, Kp X w4 w5 := fun X b h h' => b5.block b h'
                  replace S1 := Lib.hid (S1.out.keep (kx _))
                  replace T1 := Lib.hid (T1.out.keep (kx _))
                  replace U1 := Lib.hid (U1.out.keep (kx _))
                  replace S2 := Lib.hid (S2.out.keep (kx _))
                  replace T2 := Lib.hid (T2.out.keep (kx _))
                  replace U2 := Lib.hid (U2.out.keep (kx _))
                  replace hend := Lib.hid (hend.out.trans (b5.mono (Nat.le_of_lt hDs)))
                  clear A3 A4 b5 kx hBs hDs
                  replace A4' := Lib.hid A4'
                  have e0 : w5.cell? ⟨B, 0, none⟩ = some (.string ba) := World.rowIs.cell A4'.out (i := 0) (by omega)
                  have e1 : w5.cell? ⟨B, 1, none⟩ = some (.pointer bU) := World.rowIs.cell A4'.out (i := 1) (by omega)
                  have e2 : w5.cell? ⟨B, 2, none⟩ = some (.string bf) := World.rowIs.cell A4'.out (i := 2) (by omega)
                  have e3 : w5.cell? ⟨B, 3, none⟩ = some (.pointer bP) := World.rowIs.cell A4'.out (i := 3) (by omega)
                  have e17 : w5.cell? ⟨B, 17, none⟩ = some (.pointer bS) := World.rowIs.cell A4'.out (i := 17) (by omega)
                  have e18 : w5.cell? ⟨B, 18, none⟩ = some (.pointer bA) := World.rowIs.cell A4'.out (i := 18) (by omega)
                  go_wp2_with fail
                  go_at_call 7
                  refine (lower _ _ _ _ _ _ _ _ _ _ A4'.out).mono ?_
                  rintro e w' ⟨rfl, rfl⟩
                  go_wp2_with fail
                  go_at_call 8
                  refine (keyLen _ _ _ _ _ _ _ _ _ _ A4'.out).mono ?_
                  rintro e w' ⟨rfl, rfl⟩
                  go_upto_region 51 with fail
                  go_cut [327] from 308 to 327 (fun x wx => x = .bool false ∧ w5 = wx)
                  case first =>
                    rcases U2.out with ⟨h4, rfl⟩ | ⟨h4, x, hx, rfl, gx⟩
                    · have h4' : bits .and .u8 bm 4 = 0 := by simpa using h4
                      go_wp2_with fail
                      go_meet
                      exact ⟨rfl, rfl⟩
                    · have h4' : ¬ bits .and .u8 bm 4 = 0 := by simpa using h4
                      go_wp2_with fail
                      go_meet
                      exact ⟨rfl, rfl⟩
                  case rest =>
                    obtain ⟨rfl, rfl⟩ := hcut
                    go_upto_region 53 with fail
                    go_cut [337] from 328 to 337 (fun x wx => x = .bool false ∧ w5 = wx)
                    case first =>
                      rcases U2.out with ⟨h4, rfl⟩ | ⟨h4, x, hx, rfl, gx⟩
                      · have h4' : bits .and .u8 bm 4 = 0 := by simpa using h4
                        go_wp2_with fail
                        go_meet
                        exact ⟨rfl, rfl⟩
                      · have h4' : ¬ bits .and .u8 bm 4 = 0 := by simpa using h4
                        go_wp2_with fail
                        go_meet
                        exact ⟨rfl, rfl⟩
                    case rest =>
                      obtain ⟨rfl, rfl⟩ := hcut
                      go_wp2_with fail
                      go_at_call 10
                      refine (intact _ _ _ _ _ _ _ S2.out).mono ?_
                      rintro e w' ⟨rfl, rfl⟩
                      go_wp2_with fail
                      go_at_call 10
                      refine (intact _ _ _ _ _ _ _ T2.out).mono ?_
                      rintro e w' ⟨rfl, rfl⟩
                      go_upto_region 57 with fail
                      go_cut [362] from 354 to 362 (fun x wx => x = .bool false ∧ w5 = wx)
                      case first =>
                        rcases P2.out with ⟨h4, rfl⟩ | ⟨h4, x, hx, rfl⟩
                        · have h4' : bits .and .u8 bm 8 = 0 := by simpa using h4
                          go_wp2_with fail
                          go_meet
                          exact ⟨rfl, rfl⟩
                        · have h4' : ¬ bits .and .u8 bm 8 = 0 := by simpa using h4
                          go_wp2_with fail
                          go_meet
                          exact ⟨rfl, rfl⟩
                      case rest =>
                        obtain ⟨rfl, rfl⟩ := hcut
                        clear e0 e1 e2 e3 e17 e18 S2 T2 U2 P2
                        go_wp2_with fail
                        go_at_call 9
                        refine (untouched _ _ _ _ _ _ _ _ _ _ A4'.out).mono ?_
                        rintro e w6 ⟨rfl, b6⟩
                        have hDs : D ≤ w5.heap.size := Nat.le_trans (Nat.le_of_eq hD.out.symm) hend.out.size
                        have kx : ∀ X, Kp X w5 w6 := fun X b h h' => b6.block b h'
                        replace S1 := Lib.hid (S1.out.keep (kx _))
                        replace T1 := Lib.hid (T1.out.keep (kx _))
                        replace U1 := Lib.hid (U1.out.keep (kx _))
                        replace hend := Lib.hid (hend.out.trans (b6.mono hDs))
                        clear A4' b6 kx hDs
                        go_upto_region 61 with fail
                        go_cut [374] from 366 to 374 (fun x wx => x = .bool false ∧ w6 = wx)
                        case first =>
                          rcases U1.out with ⟨h4, rfl⟩ | ⟨h4, x, hx, rfl, gx⟩
                          · go_wp2_with fail
                            go_meet
                            exact ⟨rfl, rfl⟩
                          · go_wp2_with fail
                            go_meet
                            exact ⟨rfl, rfl⟩
                        case rest =>
                          obtain ⟨rfl, rfl⟩ := hcut
                          go_wp2_with fail
                          go_at_call 10
                          refine (intact _ _ _ _ _ _ _ S1.out).mono ?_
                          rintro e w' ⟨rfl, rfl⟩
                          go_wp2_with fail
                          go_at_call 10
                          refine (intact _ _ _ _ _ _ _ T1.out).mono ?_
                          rintro e w' ⟨rfl, rfl⟩
                          go_wp2_with fail
                          go_ret
                          exact ⟨rfl, hD.out ▸ hend.out⟩
end Go.Proofs.Ytodbjiiogjoogaa.fnApplyExtendedConfigCaseTable
