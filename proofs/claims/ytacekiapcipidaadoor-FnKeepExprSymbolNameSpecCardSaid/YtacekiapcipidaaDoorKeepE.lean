/-
  zzEqU16: two slices with the same units are equal. Condition: at most 2^21 units.
-/
import Derived.Lib.Hide
import Derived.Deep.Draws
import Derived.Test.YtacekiapcipidaaDoorHash
import Derived.Test.YtacekiapcipidaaDoorRowsI
namespace Go.Proofs.YtacekiapcipidaaDoor.KeepE
open Go.RowKit Go.Proofs.YtacekiapcipidaaDoor.Ints

theorem cells_of_own {w : World} {B b cap : Nat} {xs : List Int} (h : w.ownsRow B 198 1 (.slice (some ⟨b, 0, none⟩) xs.length cap) xs.length (xs.map (.int .u16))) :
    ∀ i, i < xs.length → w.cell? ⟨b, i, none⟩ = some (.int .u16 (xs.getD i 0)) := by
  intro i hi
  rcases h.2 with ⟨e, _⟩ | ⟨g, cap', cur, e, _, hg, _, _, _, ht⟩
  · cases e
  · cases e
    have h1 : cur.toList[i]? = some (.int .u16 (xs.getD i 0)) := by
      have : (cur.toList.take (xs.length * 1))[i]? = (xs.map (Value.int .u16))[i]? := by rw [ht]
      rw [List.getElem?_take_of_lt (by omega)] at this
      rw [this]
      simp [hi]
    simp only [World.cell?, hg]
    simpa using h1
theorem ints_of_own {w : World} {B b cap : Nat} {xs : List Int} (h : w.ownsRow B 198 1 (.slice (some ⟨b, 0, none⟩) xs.length cap) xs.length (xs.map (.int .u16))) :
    IntsAt .u16 w (some ⟨b, 0, none⟩) xs.length (fun i => xs.getD i 0) := by
  have hc := cells_of_own h
  rcases h.2 with ⟨e, _⟩ | ⟨g, cap', cur, e, _, hg, _, _, _, hcur⟩
  · cases e
  · cases e
    exact .inr ⟨b, 0, rfl, (Array.getElem?_eq_some_iff.1 hg).1, fun i hi => by rw [Nat.zero_add]; exact hc i hi⟩

theorem eqU16 (o1 o2 : Option Addr) (n1 c1 c2 : Nat) (f1 : Nat → Int) (w : World) (m1 : n1 ≤ 2097152) (h1 : IntsAt .u16 w o1 n1 f1) (h2 : IntsAt .u16 w o2 n1 f1) :
    Calls Tryd.prog 14 #[.slice o1 n1 c1, .slice o2 n1 c2] w fun e w' => e = .returned (.bool true) ∧ ∃ m, w' = w.drewN m := by
  go_enter Tryd.func14, Tryd.ntmps14
  go_wp2
  go_loopg [5] n1 (fun g i wr => (∃ m, wr = w.drewN m) ∧ ∃ r : Nat, r ≤ n1 ∧ g = n1 - r ∧ i = .int .i64 r)
  case atStart => exact ⟨⟨0, rfl⟩, 0, Nat.zero_le _, rfl, rfl⟩
  case round =>
    obtain ⟨⟨m, rfl⟩, r, hr, rfl, rfl⟩ := hrel
    rcases Nat.lt_or_ge r n1 with hlt | hge
    · rcases h1 with h0 | ⟨b, off, he, hb, hc⟩
      · omega
      rcases h2 with h0' | ⟨b', off', he', hb', hc'⟩
      · omega
      cases he
      cases he'
      have g1 : w.cell? ⟨b, off + r, none⟩ = some (.int .u16 (f1 r)) := hc r hlt
      have g2 : w.cell? ⟨b', off' + r, none⟩ = some (.int .u16 (f1 r)) := hc' r hlt
      clear hc hc'
      go_wp2
      go_region
      go_wp2
      go_roundg (n1 - (r + 1))
      case measure => omega
      case rel => exact ⟨⟨m + 1, rfl⟩, r + 1, by omega, rfl, rfl⟩
    · have hrn : r = n1 := by omega
      subst hrn
      go_wp2
      go_ret
      exact ⟨rfl, m, rfl⟩
end Go.Proofs.YtacekiapcipidaaDoor.KeepE
