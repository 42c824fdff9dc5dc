/- The fields of a header, one by one. -/
import Derived.Test.YtjbbapodcngnaaaDoorImA
namespace Go.Proofs.YtjbbapodcngnaaaDoor
open Go.RowKit Hdr

/-- An iterator at block ib over the header at block hb. -/
structure It (w : World) (ib hb lb n cap : Nat) (m : Option Nat) (j : Int) : Prop where
  B : Blk w ib [.pointer (some ⟨hb, 0, none⟩), .int .i64 j] 91
  H : Blk w hb [.slice (some ⟨lb, 0, none⟩) n cap, .map m] 45
theorem It.keep {S : Nat → Prop} {w w' : World} {ib hb lb n cap : Nat} {m : Option Nat} {j : Int} (h : It w ib hb lb n cap m j) (k : Keeps S w w') (h1 : ¬ S ib) (h2 : ¬ S hb) : It w' ib hb lb n cap m j := ⟨h.B.keep k h1, h.H.keep k h2⟩
theorem It.drewN {w : World} {ib hb lb n cap : Nat} {m : Option Nat} {j : Int} (h : It w ib hb lb n cap m j) (q : Nat) : It (w.drewN q) ib hb lb n cap m j := ⟨h.B.drewN q, h.H.drewN q⟩
theorem It.cells {w : World} {ib hb lb n cap : Nat} {m : Option Nat} {j : Int} (h : It w ib hb lb n cap m j) : w.cell? ⟨ib, 0, none⟩ = some (.pointer (some ⟨hb, 0, none⟩)) ∧ w.cell? ⟨ib, 1, none⟩ = some (.int .i64 j) ∧ w.cell? ⟨hb, 0, none⟩ = some (.slice (some ⟨lb, 0, none⟩) n cap) :=
  ⟨h.B.cell 0, h.B.cell 1, h.H.cell 0⟩

set_option maxRecDepth 100000 in
set_option maxHeartbeats 1000000 in
theorem next_any (ib hb lb n cap : Nat) (m : Option Nat) (j : Int) (w : World) (h : It w ib hb lb n cap m j) (h1 : -1 ≤ j) (h2 : j < n) (hn : n ≤ 1000000) :
    Calls Tryd.prog 107 #[.pointer (some ⟨ib, 0, none⟩)] w fun e w' => e = .returned (.bool (decide (j + 1 < n))) ∧ It w' ib hb lb n cap m (j + 1) ∧ Keeps (In [ib]) w w' := by
  obtain ⟨c0, c1, c2⟩ := h.cells
  have fz := h.B.frozen
  have hne : ib ≠ hb := h.B.ne h.H (by decide)
  have H := Lib.hid h
  have hw : IntKind.i64.wrap (j + 1) = j + 1 := by rw [IntKind.wrap_i64]; omega
  clear h
  go_enter Tryd.func107, Tryd.ntmps107
  go_wp2
  go_quiet (fail)
  go_wp2
  go_ret
  have hB := (H.out.B.set 1 (.int .i64 (j + 1))).drewN nq
  exact ⟨rfl, ⟨hB.to rfl, (H.out.H.set_other (p := ⟨ib, 1, none⟩) hne _).drewN nq⟩, ((Keeps.refl _ w).setCell (.inl (by simp [In])) _).drewN nq⟩

set_option maxRecDepth 100000 in
set_option maxHeartbeats 1000000 in
theorem index_any (ib hb lb n cap : Nat) (m : Option Nat) (j : Nat) (w : World) (h : It w ib hb lb n cap m j) (hj : j < n) (hn : n ≤ 1000000) :
    Calls Tryd.prog 111 #[.pointer (some ⟨ib, 0, none⟩)] w fun e w' => e = .returned (.int .i64 ((n - 1 - j : Nat) : Int)) ∧ ∃ q, w' = w.drewN q := by
  obtain ⟨c0, c1, c2⟩ := h.cells
  have e1 : decide ((j : Int) < 0) = false := decide_eq_false (by omega)
  have e2 : decide ((n : Int) ≤ (j : Int)) = false := decide_eq_false (by omega)
  have e2' : decide (n ≤ j) = false := decide_eq_false (by omega)
  have e3 : IntKind.i64.wrap ((n : Int) - (j : Int)) = (n : Int) - j := by rw [IntKind.wrap_i64]; omega
  have e4 : (n : Int) - (j : Int) - 1 = ((n - 1 - j : Nat) : Int) := by omega
  have e5 : IntKind.i64.wrap ((n : Int) - (j : Int) - 1) = ((n - 1 - j : Nat) : Int) := by rw [e4]; exact wrap_small _ (by omega)
  clear h
  go_enter Tryd.func111, Tryd.ntmps111
  go_wp2
  go_quiet (fail)
  go_wp2
  go_quiet (fail)
  go_wp2
  go_ret
  exact ⟨rfl, _, World.drewN_drewN _ _ _⟩

set_option maxRecDepth 100000 in
set_option maxHeartbeats 1000000 in
theorem field_any (ib hb lb n cap : Nat) (m : Option Nat) (j fb : Nat) (w : World) (h : It w ib hb lb n cap m j) (hj : j < n) (hn : n ≤ 1000000) (hc : w.cell? ⟨lb, n - 1 - j, none⟩ = some (.pointer (some ⟨fb, 0, none⟩))) :
    Calls Tryd.prog 110 #[.pointer (some ⟨ib, 0, none⟩)] w fun e w' => e = .returned (.pointer (some ⟨fb, 0, none⟩)) ∧ ∃ q, w' = w.drewN q := by
  obtain ⟨c0, c1, c2⟩ := h.cells
  have H := Lib.hid h
  have e1 : ((n - 1 - j : Nat) : Int) < (n : Int) := by omega
  have e2 : (0 : Int) ≤ ((n - 1 - j : Nat) : Int) := by omega
  have hix := fun w' (h : It w' ib hb lb n cap m j) => index_any ib hb lb n cap m j w' h hj hn
  generalize n - 1 - j = ix at *
  clear h
  go_enter Tryd.func110, Tryd.ntmps110
  go_wp2
  go_quiet ((go_at_call 111; exact Calls.quiet_of (hix _ (H.out.drewN _))))
  go_wp2
  go_ret
  exact ⟨rfl, _, rfl⟩
end Go.Proofs.YtjbbapodcngnaaaDoor
