import Derived.Test.YtjbbapodcngnaaaDoorBase
import Derived.Test.YtjbbapodcngnaaaDoorProg
namespace Go.Proofs.YtjbbapodcngnaaaDoor
open Go.RowKit

/-- io.EOF: nothing is left. -/
theorem sread_eof (s i b o len cap : Nat) (src : ByteArray) (ea : Addr) (w : World)
    (h0 : w.cell? ⟨s, 0, none⟩ = some (.string src)) (h1 : w.cell? ⟨s, 1, none⟩ = some (.int .i64 i)) (he : w.cell? ⟨2, 0, none⟩ = some (.iface 109 (.pointer (some ea))))
    (hi : src.size ≤ i) :
    Calls Tryd.prog 102 #[.pointer (some ⟨s, 0, none⟩), .slice (some ⟨b, o, none⟩) len cap] w fun e w' =>
      e = .returned (.tuple #[.int .i64 0, (.iface 109 (.pointer (some ea)))]) ∧ Drawn w w' := by
  go_enter Tryd.func102, Tryd.ntmps102
  go_wp2
  go_quiet (fail)
  go_wp2
  go_quiet (fail)
  go_wp2
  go_ret2
  exact ⟨rfl, by repeat (first | exact Drawn.refl _ | apply Drawn.drewN)⟩

set_option maxRecDepth 100000 in
theorem sread_some (s i b o len cap n : Nat) (p : Int) (src : ByteArray) (cs : List Value) (w : World)
    (hs : Blk w s [.string src, .int .i64 i, .int .i64 p] 95) (hb : Blk w b cs 5)
    (hin : i < src.size) (hsz : src.size ≤ 1000000000) (hn : n = min (src.size - i) len) (hfit : o + n ≤ cs.length) :
    Calls Tryd.prog 102 #[.pointer (some ⟨s, 0, none⟩), .slice (some ⟨b, o, none⟩) len cap] w fun e w' =>
      e = .returned (.tuple #[.int .i64 n, .nilIface]) ∧ Keeps (In [s, b]) w w' ∧
        Blk w' s [.string src, .int .i64 (i + n : Nat), .int .i64 (-1)] 95 ∧
        Blk w' b (cs.take o ++ u8s ((src.data.toList.drop i).take n) ++ cs.drop (o + n)) 5 := by
  have h0 := hs.cell 0
  have h1 := hs.cell 1
  have h2 := hs.cell 2
  have f2 := hs.frozen 2
  simp only [List.getElem?_cons_zero, List.getElem?_cons_succ] at h0 h1 h2
  have hle : i ≤ src.size := by omega
  have hsb : s ≠ b := hs.ne hb (by decide)
  have HN := Lib.hid hn
  have hn1 : n ≤ src.size - i := by omega
  clear hn
  go_enter Tryd.func102, Tryd.ntmps102
  go_wp2
  go_quiet (fail)
  go_wp2
  refine wp_as fun W1 hW1 => ?_
  obtain ⟨B1, B2, K1⟩ : Blk W1 s [.string src, .int .i64 i, .int .i64 (-1)] 95 ∧ Blk W1 b cs 5 ∧ Keeps (In [s, b]) w W1 := by
    subst hW1
    exact ⟨(hs.drewN nq).set 2 _, (hb.drewN nq).set_other hsb _, ((Keeps.refl _ _).drewN _).setCell (.inl (by simp [In])) _⟩
  clear hW1 h0 h1 h2 f2
  have h0 := B1.cell 0
  have h1 := B1.cell 1
  simp only [List.getElem?_cons_zero, List.getElem?_cons_succ] at h0 h1
  refine region_tail 10 (by kernel_rfl) (by kernel_rfl) ?_
  simp only [List.take_succ_cons, List.take_zero, List.drop_succ_cons, List.drop_zero]
  repeat still_step
  refine wpStill_nil ?_
  refine wpList_copy_str rfl (.tmp 20) (.tmp 29) 41 9 rfl 5 Tryd.underlying41 (by kernel_rfl) b o len cap _ rfl rfl cs 5 n ?hn B2.drew hfit ?_
  case hn => rw [HN.out]; simp
  intro W2 B3 K2
  have B4 : Blk W2 s _ _ := B1.drew.keep K2 (fun h => by simp only [In, List.mem_cons, List.not_mem_nil, or_false] at h; omega)
  have K3 : Keeps (In [s, b]) w W2 := K1.drew.trans K2 (fun _ _ h => by simp only [In, List.mem_cons, List.not_mem_nil, or_false] at h ⊢; omega)
  clear h0 h1 B1 B2 K1 K2
  have h1 := B4.cell 1
  have f1 := B4.frozen 1
  simp only [List.getElem?_cons_zero, List.getElem?_cons_succ] at h1
  go_wp2
  go_ret2
  refine ⟨rfl, K3.setCell (.inl (by simp [In])) _, ?_, ?_⟩
  · rw [Int.natCast_add]; exact B4.set 1 _
  · rw [extract_end] at B3
    exact B3.out.set_other hsb _
end Go.Proofs.YtjbbapodcngnaaaDoor
