/- From the rows' condition on the package variables to what the walks ask. -/
import Derived.Test.YtjbbapodcngnaaaGreatDoorZtaa
import Derived.Maps.AppendAt
import Derived.Test.YtjbbapodcngnaaaGreatDoorRows
import Derived.ChangeSame
import Derived.ChangeVars
import Derived.JoinedOf
import Derived.RowKit
import Derived.RowKitTokens
import Derived.LaidLaws
import Derived.LaidMore
import Derived.ProofKit
import Derived.OpenShut
import Derived.ShutString
import Derived.ChangeMaps5
import Derived.Stop.Joined
namespace Go.Proofs.YtjbbapodcngnaaaGreatDoor
open Go.ChangeShapes Go.WideShapes Go.RowKit Hdr

theorem own : ownKnob Tryz.prog.godebug = none := by kernel_rfl
theorem gEof : Tryz.prog.globalNamed "io.EOF" = some 0 := by kernel_rfl
theorem gNoP : Tryz.prog.globalNamed "io.ErrNoProgress" = some 7 := by kernel_rfl
theorem gInv : Tryz.prog.globalNamed "bufio.ErrInvalidUnreadByte" = some 9 := by kernel_rfl
theorem gFull : Tryz.prog.globalNamed "bufio.ErrBufferFull" = some 3 := by kernel_rfl
theorem tEof : (Tryz.prog.globals[0]?).map (·.type) = some 93 := by kernel_rfl
theorem tInv : (Tryz.prog.globals[9]?).map (·.type) = some 93 := by kernel_rfl
theorem tFull : (Tryz.prog.globals[3]?).map (·.type) = some 93 := by kernel_rfl
theorem starName : "*" ++ "errors.errorString" = "*errors.errorString" := by decide
theorem rowErr (u : TypeId) (h : Tryz.prog.typeName? 3 u = some "*errors.errorString") : u = 203 :=
  typeName_ptr_named (nm := "errors.errorString") (by rw [starName]; kernel_rfl) (by kernel_rfl) (by decide) u (by rw [starName]; exact h)
theorem cellsErr : Tryz.prog.cellsOf 205 = 1 := by kernel_rfl
theorem cellsStr : Tryz.prog.cellsOf 9 = 1 := by kernel_rfl

/-- The listed variables of this seat. -/
abbrev laid6 : List (String × DataW Unit) := [("io.EOF", Rows.laid_io_EOF), ("io.ErrNoProgress", Rows.laid_io_ErrNoProgress), ("bufio.ErrInvalidUnreadByte", Rows.laid_bufio_ErrInvalidUnreadByte), ("bufio.ErrBufferFull", Rows.laid_bufio_ErrBufferFull), ("bufio.ErrNegativeCount", Rows.laid_bufio_ErrNegativeCount), ("bufio.errNegativeRead", Rows.laid_bufio_errNegativeRead)]

set_option maxRecDepth 100000 in
theorem laid_of {W : World} (h : laidMetH Tryz.prog laid6 W) : ∃ ea, Laid W.heap.size ea W := by
  rw [MakeChecks.laidMetH_plain _ _ _ (by kernel_rfl)] at h
  obtain ⟨ps, ⟨g0, t0, cs0, f0, p0, q0, hg0, ht0, hv0, hd0, ⟨g1, t1, cs1, f1, p1, q1, hg1, ht1, hv1, hd1, ⟨g2, t2, cs2, f2, p2, q2, hg2, ht2, hv2, hd2, ⟨g3, t3, cs3, f3, p3, q3, hg3, ht3, hv3, hd3, hrest, e3⟩, e2⟩, e1⟩, e0⟩, hnd, hrows⟩ := h
  obtain rfl := Option.some.inj (gEof.symm.trans hg0)
  obtain rfl := Option.some.inj (gNoP.symm.trans hg1)
  obtain rfl := Option.some.inj (gInv.symm.trans hg2)
  obtain rfl := Option.some.inj (gFull.symm.trans hg3)
  obtain rfl := Option.some.inj (tEof.symm.trans ht0)
  obtain rfl := Option.some.inj (tInv.symm.trans ht2)
  obtain rfl := Option.some.inj (tFull.symm.trans ht3)
  clear hrest hd1 hv1 ht1
  subst e3
  subst e2
  subst e1
  subst e0
  obtain ⟨l0⟩ := cs0
  obtain ⟨l2⟩ := cs2
  obtain ⟨l3⟩ := cs3
  have ok0 : ∀ u v, l0 = [.iface u v] → Value.okWide Tryz.prog W .any 0 u v := fun u v e => by
    subst e
    exact (hrows 0 0 (by simp [MemPlace.row])).2 u v (by simpa using World.var?_cell hg0 hv0 0)
  have ok2 : ∀ u v, l2 = [.iface u v] → Value.okWide Tryz.prog W .any 0 u v := fun u v e => by
    subst e
    exact (hrows 9 0 (by simp [MemPlace.row])).2 u v (by simpa using World.var?_cell hg2 hv2 0)
  have ok3 : ∀ u v, l3 = [.iface u v] → Value.okWide Tryz.prog W .any 0 u v := fun u v e => by
    subst e
    exact (hrows 3 0 (by simp [MemPlace.row])).2 u v (by simpa using World.var?_cell hg3 hv3 0)
  obtain ⟨a0, s0, rfl, hc0, hs0, hz0, rfl⟩ := errorString_of_trod Tryz.underlying93 rowErr Tryz.underlying203 Tryz.underlying205 rfl rfl Tryz.underlying9 cellsErr cellsStr hd0 ok0
  obtain ⟨a2, s2, rfl, hc2, hs2, hz2, rfl⟩ := errorString_of_trod Tryz.underlying93 rowErr Tryz.underlying203 Tryz.underlying205 rfl rfl Tryz.underlying9 cellsErr cellsStr hd2 ok2
  obtain ⟨a3, s3, rfl, hc3, hs3, hz3, rfl⟩ := errorString_of_trod Tryz.underlying93 rowErr Tryz.underlying203 Tryz.underlying205 rfl rfl Tryz.underlying9 cellsErr cellsStr hd3 ok3
  obtain ⟨c0, u0, hb0⟩ := (hrows a0.block a0.off (by simp [MemPlace.row])).1
  obtain ⟨c3, u3, hb3⟩ := (hrows a3.block a3.off (by simp [MemPlace.row])).1
  have v0 : W.cell? ⟨0, 0, none⟩ = some (.iface 203 (.pointer (some a0))) := by simpa using World.var?_cell hg0 hv0 0
  have v2 : W.cell? ⟨9, 0, none⟩ = some (.iface 203 (.pointer (some a2))) := by simpa using World.var?_cell hg2 hv2 0
  have v3 : W.cell? ⟨3, 0, none⟩ = some (.iface 203 (.pointer (some a3))) := by simpa using World.var?_cell hg3 hv3 0
  have l2 := World.block_lt_of_cell? W _ v2
  refine ⟨a0, ?_, v0, lt_of_cells hb0, ⟨c0, u0, hb0⟩, a3, v3, lt_of_cells hb3, ⟨c3, u3, hb3⟩, ?_⟩
  · simp at l2
    omega
  · rintro rfl
    simp [MemPlace.row] at hnd

theorem kept_of {w w' : World} (k : Keeps No w w') (may : MemPlace → Prop) : w.keptBut w' may :=
  ⟨k.os, k.output, fun i hi => by
    have := World.keptBut_refl w may
    rw [k.block i hi (fun h => h)]
    exact this.2.2 i hi⟩
end Go.Proofs.YtjbbapodcngnaaaGreatDoor
