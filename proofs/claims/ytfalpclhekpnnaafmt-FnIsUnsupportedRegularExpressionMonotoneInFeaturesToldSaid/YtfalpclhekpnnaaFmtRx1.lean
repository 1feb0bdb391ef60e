/-
  isUnsupportedRegularExpression: what it calls. No condition.
-/
import Derived.Test.YtfalpclhekpnnaaFmtRxLaw
import Derived.Test.YtfalpclhekpnnaaFmtLg3
import Derived.Laws.BitsAllLaws
import Derived.Stop.AnyFormat
import GoSem.ClaimData
import Derived.WalkSpells
namespace Go.Proofs.YtfalpclhekpnnaaFmt.Rx
open Go.RowKit Go.Proofs.YtfalpclhekpnnaaFmt.Ints Go.Proofs.YtfalpclhekpnnaaFmt.Lg Go.Proofs.YtfalpclhekpnnaaFmt.U8
open Go.Extern.Stop Go.Stop Go.Extern

theorem has (a b : Int) (w : World) : Calls Tryf.prog 21 #[.int .u64 a, .int .u64 b] w fun e w' => e = .returned (.bool (hasB a b)) ∧ w = w' := by
  unfold hasB
  go_enter Tryf.func21, Tryf.ntmps21
  go_wp2
  go_ret
  exact ⟨rfl, rfl⟩
def whereS : ByteArray := ⟨#[116, 104, 101, 32, 99, 111, 110, 102, 105, 103, 117, 114, 101, 100, 32, 116, 97, 114, 103, 101, 116, 32, 101, 110, 118, 105, 114, 111, 110, 109, 101, 110, 116]⟩
theorem pretty (w : World) : Calls Tryf.prog 24 #[.string ⟨#[]⟩, .int .u64 0] w fun e w' => e = .returned (.string whereS) ∧ w = w' := by
  go_enter Tryf.func24, Tryf.ntmps24
  go_wp2
  go_ret
  exact ⟨rfl, rfl⟩
theorem callS (args : Array Value) (w : World) : (callFunc 23 args).run Tryf.prog w = ((FmtStop.sprintf #[9, 327] #[9] args).run Tryf.prog w).andThen fun v w' => .ok (.value v) w' :=
  run_callFunc_extern Tryf.func23 (by kernel_rfl) (by kernel_rfl) (by kernel_rfl) (by kernel_rfl) args w
theorem guardS (name : String) (w : World) : (FmtStop.guard name).run Tryf.prog w = .ok () w := by kernel_rfl
def fm1 : ByteArray := ⟨#[84, 104, 101, 32, 114, 101, 103, 117, 108, 97, 114, 32, 101, 120, 112, 114, 101, 115, 115, 105, 111, 110, 32, 102, 108, 97, 103, 32, 34, 37, 99, 34, 32, 105, 115, 32, 110, 111, 116, 32, 97, 118, 97, 105, 108, 97, 98, 108, 101]⟩
def fm2 : ByteArray := ⟨#[37, 115, 32, 105, 110, 32, 37, 115]⟩
theorem pr1 : FmtStop.printed? fm1 1 = some [(0, 99, false)] := by kernel_rfl
theorem pr2 : FmtStop.printed? fm2 2 = some [(0, 115, false), (1, 115, false)] := by kernel_rfl
def shI : List UInt8 := [4, 5, 0, 0, 0, 0, 0, 0, 0, 105, 110, 116, 51, 50]
theorem opI (name : String) (x : Int) (w : World) : (FmtStop.operand name false 99 false (.iface 21 (.int .i32 x))).run Tryf.prog w = .ok (shI, Go.Extern.Stop.digits 8 (x % 2 ^ 64).toNat) w := by kernel_rfl
def shS : List UInt8 := [12, 6, 0, 0, 0, 0, 0, 0, 0, 115, 116, 114, 105, 110, 103]
theorem opS (name : String) (x : ByteArray) (w : World) : (FmtStop.operand name false 115 false (.iface 9 (.string x))).run Tryf.prog w = .ok (shS, FmtStop.pack x.data.toList) w := by kernel_rfl
theorem spr {F : Interp} {w : World} (hF : F.answers w.tape) (f : ByteArray) (a : Value) (vs : List Value) (pl : List (Nat × UInt8 × Bool)) (ops : List (List UInt8 × List UInt8)) (hc : (FmtStop.cells a).run Tryf.prog w = .ok vs w)
    (hp : FmtStop.printed? f vs.length = some pl) (ho : (FmtStop.readAll "fmt.Sprintf" false vs pl).run Tryf.prog w = .ok ops w) :
    ∃ s : ByteArray, (callFunc 23 #[.string f, a]).run Tryf.prog w = .ok (.value (.string s)) w.drew := by
  have e : ∃ s : ByteArray, (FmtStop.sprintf #[9, 327] #[9] #[.string f, a]).run Tryf.prog w = .ok (.string s) w.drew := by
    rw [FmtStop.sprintf_lit]
    simp only [Sem.run_bind, guardS, Result.andThen_ok, hc, hp, ho]
    exact ⟨_, FmtStop.run_text F _ _ _ w hF⟩
  obtain ⟨s, hs⟩ := e
  exact ⟨s, by rw [callS, hs]; rfl⟩
theorem spr1 {F : Interp} {w : World} (hF : F.answers w.tape) (b : Nat) (r : Int) (h : w.cell? ⟨b, 0, none⟩ = some (.iface 21 (.int .i32 r))) :
    ∃ s : ByteArray, (callFunc 23 #[.string fm1, .slice (some ⟨b, 0, none⟩) 1 1]).run Tryf.prog w = .ok (.value (.string s)) w.drew := by
  refine spr hF fm1 _ [.iface 21 (.int .i32 r)] [(0, 99, false)] [(shI, Go.Extern.Stop.digits 8 (r % 2 ^ 64).toNat)] ?_ pr1 ?_
  · simp [FmtStop.cells, go_sem, h]
  · have := opI "fmt.Sprintf" r w
    simp [FmtStop.readAll, this]
theorem spr2 {F : Interp} {w : World} (hF : F.answers w.tape) (b : Nat) (x y : ByteArray) (h : w.cell? ⟨b, 0, none⟩ = some (.iface 9 (.string x))) (h1 : w.cell? ⟨b, 1, none⟩ = some (.iface 9 (.string y))) :
    ∃ s : ByteArray, (callFunc 23 #[.string fm2, .slice (some ⟨b, 0, none⟩) 2 2]).run Tryf.prog w = .ok (.value (.string s)) w.drew := by
  refine spr hF fm2 _ [.iface 9 (.string x), .iface 9 (.string y)] [(0, 115, false), (1, 115, false)] [(shS, FmtStop.pack x.data.toList), (shS, FmtStop.pack y.data.toList)] ?_ pr2 ?_
  · simp [FmtStop.cells, go_sem, h, h1]
  · have e1 := opS "fmt.Sprintf" x w
    have e2 := opS "fmt.Sprintf" y w
    simp [FmtStop.readAll, e1, e2]
end Go.Proofs.YtfalpclhekpnnaaFmt.Rx
