/- strings.NewReader, bufio.NewReader, ReadHeaderOf, headed. -/
import Derived.Test.YtjbbapodcngnaaaDoorRhC
import Derived.Deep.OwnRows
namespace Go.Proofs.YtjbbapodcngnaaaDoor
open Go.RowKit Hdr

set_option maxRecDepth 100000 in
theorem stringsNew_any (src : ByteArray) (w : World) :
    Calls Tryd.prog 32 #[.string src] w fun e w' => e = .returned (.pointer (some ⟨w.heap.size, 0, none⟩)) ∧ w' = w.alloc (.cells (src3 src 0 (-1)).toArray 95) := by
  go_enter Tryd.func32, Tryd.ntmps32
  go_wp2
  go_ret
  exact ⟨rfl, rfl⟩

theorem made_u8 (n : Nat) : madeCells #[Value.int .u8 0] n = (u8s (List.replicate n 0)).toArray := by
  apply Array.ext
  · simp [madeCells]
  · intro i h1 h2
    simp [madeCells, u8s, byt, Nat.mod_one]

set_option maxRecDepth 100000 in
set_option maxHeartbeats 400000 in
theorem bufReset_any (b g s : Nat) (w : World) (cs : List Value) (hc : ∃ a0 a1 a2 a3 a4 a5 a6, cs = [a0, a1, a2, a3, a4, a5, a6]) (hb : Blk w b cs 108) :
    Calls Tryd.prog 54 #[.pointer (some ⟨b, 0, none⟩), .slice (some ⟨g, 0, none⟩) 4096 4096, .iface 81 (.pointer (some ⟨s, 0, none⟩))] w fun e w' => e = .returned (.tuple #[]) ∧ Blk w' b (brc g s 0 0 .nilIface (-1) (-1)) 108 ∧ Keeps (In [b]) w w' := by
  obtain ⟨a0, a1, a2, a3, a4, a5, a6, rfl⟩ := hc
  have fz := hb.frozen
  have c0 : w.cell? ⟨b, 0, none⟩ = some a0 := hb.cell 0
  have c1 : w.cell? ⟨b, 1, none⟩ = some a1 := hb.cell 1
  have c2 : w.cell? ⟨b, 2, none⟩ = some a2 := hb.cell 2
  have c3 : w.cell? ⟨b, 3, none⟩ = some a3 := hb.cell 3
  have c4 : w.cell? ⟨b, 4, none⟩ = some a4 := hb.cell 4
  have c5 : w.cell? ⟨b, 5, none⟩ = some a5 := hb.cell 5
  have c6 : w.cell? ⟨b, 6, none⟩ = some a6 := hb.cell 6
  have H := Lib.hid hb
  clear hb
  go_enter Tryd.func54, Tryd.ntmps54
  go_wp2
  go_end0
  have hb := ((((((H.out.set 0 (.slice (some ⟨g, 0, none⟩) 4096 4096)).set 1 (.iface 81 (.pointer (some ⟨s, 0, none⟩)))).set 2 (.int .i64 0)).set 3 (.int .i64 0)).set 4 .nilIface).set 5 (.int .i64 (-1))).set 6 (.int .i64 (-1))
  refine ⟨rfl, hb.to rfl, ?_⟩
  have k : ∀ (W : World) (i : Nat) (v : Value), Keeps (In [b]) w W → Keeps (In [b]) w (W.setCell ⟨b, i, none⟩ v) := fun W i v h => h.setCell (.inl (by simp [In])) v
  exact k _ _ _ (k _ _ _ (k _ _ _ (k _ _ _ (k _ _ _ (k _ _ _ (k _ _ _ (Keeps.refl _ _)))))))

theorem notBuf (v : Value) (w : World) : (Instr.typeAssert (.iface 81 v) 97 83 true).run Tryd.prog w = .ok (.tuple #[.pointer none, .bool false]) w := by kernel_rfl

/-- What bufio.NewReader leaves. -/
def BnPost (s : Nat) (w : World) (e : Ending) (w' : World) : Prop :=
  ∃ b g : Nat, e = .returned (.pointer (some ⟨b, 0, none⟩)) ∧ w.heap.size ≤ b ∧ w.heap.size ≤ g ∧ Blk w' b (brc g s 0 0 .nilIface (-1) (-1)) 108 ∧ Blk w' g (u8s (List.replicate 4096 0)) 5 ∧ Keeps No w w'

set_option maxRecDepth 100000 in
set_option maxHeartbeats 1000000 in
theorem bufNewSize_any (s : Nat) (w : World) :
    Calls Tryd.prog 42 #[.iface 81 (.pointer (some ⟨s, 0, none⟩)), .int .i64 4096] w (BnPost s w) := by
  have hmk := run_make_row' (P := Tryd.prog) 41 5 (.int .u8 0) 1 Tryd.underlying41 info_u8 rfl .i64 .i64 4096 (by decide) (by decide)
  rw [made_u8] at hmk
  have hmk2 : ∀ w : World, (Instr.makeSlice 41 (.int .i64 (max 4096 16)) (.int .i64 (max 4096 16))).run Tryd.prog w = .ok (.slice (some ⟨w.heap.size, 0, none⟩) 4096 4096) (w.alloc (.cells (u8s (List.replicate 4096 0)).toArray 5)) := by
    have e : (max (4096 : Int) 16) = ((4096 : Nat) : Int) := by decide
    rw [e]
    exact hmk
  clear hmk
  generalize hl : u8s (List.replicate 4096 0) = l0 at hmk2
  have HL := Lib.hid hl
  clear hl
  have hnb := notBuf (.pointer (some ⟨s, 0, none⟩))
  go_enter Tryd.func42, Tryd.ntmps42
  go_wp2_with (fail)
  refine (bufReset_any w.heap.size (w.heap.size + 1) s _ [.slice none 0 0, .nilIface, .int .i64 0, .int .i64 0, .nilIface, .int .i64 0, .int .i64 0] ⟨_, _, _, _, _, _, _, rfl⟩ ((Blk.new w _ _).alloc _)).mono ?_
  rintro e w2 ⟨rfl, hB, K⟩
  have HB := Lib.hid hB
  clear hB hmk2 hnb
  go_wp2
  go_ret
  have hG : Blk ((w.alloc (.cells #[.slice none 0 0, .nilIface, .int .i64 0, .int .i64 0, .nilIface, .int .i64 0, .int .i64 0] 108)).alloc (.cells l0.toArray 5)) (w.heap.size + 1) l0 5 := by
    have := Blk.new (w.alloc (.cells #[.slice none 0 0, .nilIface, .int .i64 0, .int .i64 0, .nilIface, .int .i64 0, .int .i64 0] 108)) l0 5
    simpa using this
  refine ⟨w.heap.size, w.heap.size + 1, rfl, Nat.le_refl _, Nat.le_succ _, HB.out, ?_, ?_⟩
  · rw [HL.out]
    exact hG.keep K (fun h => by simp [In] at h)
  · refine ((((Keeps.refl No w).alloc _).alloc _).of_no.trans' K).mono (fun i hi h => ?_)
    simp [In] at h
    omega

theorem bufNew_any (s : Nat) (w : World) : Calls Tryd.prog 33 #[.iface 81 (.pointer (some ⟨s, 0, none⟩))] w (BnPost s w) := by
  go_enter Tryd.func33, Tryd.ntmps33
  go_wp2_with (fail)
  refine (bufNewSize_any s w).mono ?_
  rintro e w2 ⟨b, g, rfl, h⟩
  go_wp2
  go_ret
  exact ⟨b, g, rfl, h⟩

set_option maxRecDepth 100000 in
theorem readerLen_any (s i : Nat) (src : ByteArray) (p : Int) (w : World) (h : Blk w s (src3 src i p) 95) (hi : i ≤ src.size) (hs : src.size ≤ 1000000000) :
    Calls Tryd.prog 35 #[.pointer (some ⟨s, 0, none⟩)] w fun e w' => e = .returned (.int .i64 ((src.size : Int) - i)) ∧ ∃ n, w' = w.drewN n := by
  have c0 : w.cell? ⟨s, 0, none⟩ = some (.string src) := h.cell 0
  have c1 : w.cell? ⟨s, 1, none⟩ = some (.int .i64 i) := h.cell 1
  clear h
  by_cases hlt : i < src.size
  · have e1 : decide ((src.size : Int) ≤ (i : Int)) = false := decide_eq_false (by omega)
    have e2 : IntKind.i64.wrap ((src.size : Int) - (i : Int)) = (src.size : Int) - i := by rw [IntKind.wrap_i64]; omega
    have e3 : IntKind.i64.wrap (src.size : Int) = (src.size : Int) := by rw [IntKind.wrap_i64]; omega
    go_enter Tryd.func35, Tryd.ntmps35
    go_wp2
    go_quiet (fail)
    go_wp2
    go_quiet (fail)
    go_wp2
    go_ret
    exact ⟨rfl, _, World.drewN_drewN _ _ _⟩
  · have hi2 : i = src.size := by omega
    have e1 : decide ((src.size : Int) ≤ (i : Int)) = true := decide_eq_true (by omega)
    go_enter Tryd.func35, Tryd.ntmps35
    go_wp2
    go_quiet (fail)
    go_wp2
    go_ret
    exact ⟨by rw [hi2]; simp, _, rfl⟩
end Go.Proofs.YtjbbapodcngnaaaDoor
