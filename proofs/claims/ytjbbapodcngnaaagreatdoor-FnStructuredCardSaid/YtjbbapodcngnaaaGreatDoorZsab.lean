/-  -/
import Derived.Test.YtjbbapodcngnaaaGreatDoorZsaa
namespace Go.Proofs.YtjbbapodcngnaaaGreatDoor
open Go.RowKit

theorem buffered (b : Nat) (cs : List Value) (r q : Nat) (w : World) (hb : Blk w b cs 201) (h2 : cs[2]? = some (.int .i64 r)) (h3 : cs[3]? = some (.int .i64 q)) (hrq : r ≤ q) (hq : q ≤ 4096) :
    Calls Tryz.prog 83 #[.pointer (some ⟨b, 0, none⟩)] w fun e w' => e = .returned (.int .i64 ((q : Int) - r)) ∧ ∃ n, w' = w.drewN n := by
  have c2 := (hb.cell 2).trans h2
  have c3 := (hb.cell 3).trans h3
  go_enter Tryz.func83, Tryz.ntmps83
  go_wp2
  go_quiet (fail)
  go_wp2
  go_ret
  exact ⟨rfl, _, rfl⟩

end Go.Proofs.YtjbbapodcngnaaaGreatDoor
