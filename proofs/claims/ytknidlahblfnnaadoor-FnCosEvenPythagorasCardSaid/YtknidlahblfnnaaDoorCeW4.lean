/-
  The three tables as the walks read them. No condition.
-/
import Derived.Test.YtknidlahblfnnaaDoorCeW3
namespace Go.Proofs.YtknidlahblfnnaaDoor.Ce
open Go Go.RowKit Fl Small2 Mono Ieee

structure Gl (w : World) : Prop where
  s0 : w.cell? ⟨1, 0, none⟩ = some (.float .f64 4460209587652500685)
  s1 : w.cell? ⟨1, 1, none⟩ = some (.float .f64 13716528389658582877)
  s2 : w.cell? ⟨1, 2, none⟩ = some (.float .f64 4523617212962785441)
  s3 : w.cell? ⟨1, 3, none⟩ = some (.float .f64 13774824197404483331)
  s4 : w.cell? ⟨1, 4, none⟩ = some (.float .f64 4575957461383575504)
  s5 : w.cell? ⟨1, 5, none⟩ = some (.float .f64 13818544856648471880)
  c0 : w.cell? ⟨2, 0, none⟩ = some (.float .f64 13666448263388469915)
  c1 : w.cell? ⟨2, 1, none⟩ = some (.float .f64 4477121864728985349)
  c2 : w.cell? ⟨2, 2, none⟩ = some (.float .f64 13732177093698800582)
  c3 : w.cell? ⟨2, 3, none⟩ = some (.float .f64 4537941361668146421)
  c4 : w.cell? ⟨2, 4, none⟩ = some (.float .f64 13787419979223748497)
  c5 : w.cell? ⟨2, 5, none⟩ = some (.float .f64 4586165620538955083)
  t : Tab w
end Go.Proofs.YtknidlahblfnnaaDoor.Ce
