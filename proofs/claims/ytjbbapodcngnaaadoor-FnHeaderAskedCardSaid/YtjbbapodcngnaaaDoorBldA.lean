/- strings.Builder: copyCheck, WriteByte, Write. -/
import Derived.Test.YtjbbapodcngnaaaDoorShelf
import Derived.Test.YtjbbapodcngnaaaDoorTpC
namespace Go.Proofs.YtjbbapodcngnaaaDoor
open Go.RowKit

/-- A builder of ours at block b that holds these bytes. -/
abbrev Bd (B b : Nat) (l : List UInt8) (w : World) : Prop := Lib.IsBuilder 121 5 B b (u8s l) w

theorem info_builder : (Tryd.prog.info? 121).map (fun i => i.size) = some 2 := by kernel_rfl

set_option maxHeartbeats 1000000 in
set_option maxRecDepth 100000 in
theorem copyCheck_used (b : Nat) (w : World) (h0 : w.cell? ⟨b, 0, none⟩ = some (.pointer (some ⟨b, 0, none⟩))) :
    Calls Tryd.prog 68 #[.pointer (some ⟨b, 0, none⟩)] w fun e w' => e = .returned (.tuple #[]) ∧ w' = w := by
  obtain ⟨j, hj, _⟩ := Option.map_eq_some_iff.1 info_builder
  have hq := Lib.run_neq_ptr_same (P := Tryd.prog) w (⟨b, 0, none⟩ : Addr) Tryd.underlying119 hj
  go_enter Tryd.func68, Tryd.ntmps68
  go_wp2
  go_end0
  exact ⟨rfl, rfl⟩

set_option maxHeartbeats 1000000 in
set_option maxRecDepth 100000 in
theorem copyCheck_fresh (b : Nat) (w : World) (h0 : w.cell? ⟨b, 0, none⟩ = some (.pointer none)) (hsh : w.shape? b = some (121, 2)) (hfz : w.frozen? ⟨b, 0, none⟩ = false) :
    Calls Tryd.prog 68 #[.pointer (some ⟨b, 0, none⟩)] w fun e w' => e = .returned (.tuple #[]) ∧ w' = w.setCell ⟨b, 0, none⟩ (.pointer (some ⟨b, 0, none⟩)) := by
  obtain ⟨j, hj, hjs⟩ := Option.map_eq_some_iff.1 info_builder
  have hq := Lib.run_to_unsafe (P := Tryd.prog) w ⟨b, 0, none⟩ Tryd.underlying119 Tryd.underlying131 hj (by rw [hjs]; decide) hsh (Nat.zero_lt_succ 1)
  have hq2 := Lib.run_from_unsafe (P := Tryd.prog) w ⟨b, 0, none⟩ Tryd.underlying131 Tryd.underlying119 hj hsh (by kernel_rfl)
  have hq3 : (callFunc 73 #[.pointer (some ⟨b, 0, none⟩)]).run Tryd.prog w = .ok (.value (.pointer (some ⟨b, 0, none⟩))) w := by
    rw [run_callFunc_extern Tryd.func73 (by kernel_rfl) (by kernel_rfl) (by kernel_rfl) (e := Extern.AbiNoEscape.same) (by kernel_rfl), Lib.run_noEscape]
    rfl
  go_enter Tryd.func68, Tryd.ntmps68
  go_wp2
  go_end0
  exact ⟨rfl, rfl⟩

theorem copyCheck_any (B b : Nat) (bs : List Value) (w : World) (h : Lib.IsBuilder 121 5 B b bs w) :
    Calls Tryd.prog 68 #[.pointer (some ⟨b, 0, none⟩)] w fun e w' => e = .returned (.tuple #[]) ∧ (Lib.BuilderAt 121 5 B b (.pointer (some ⟨b, 0, none⟩)) bs w' ∧ Below B w w') := by
  rcases h with h | h
  · refine (copyCheck_fresh b w h.cell0 h.shape h.frozen0).mono ?_
    rintro e w' ⟨rfl, rfl⟩
    exact ⟨rfl, h.used _, (Below.refl B w).setCell (p := ⟨b, 0, none⟩) h.1 _⟩
  · refine (copyCheck_used b w h.cell0).mono ?_
    rintro e w' ⟨rfl, rfl⟩
    exact ⟨rfl, h, Below.refl B _⟩

set_option maxHeartbeats 2000000 in
set_option maxRecDepth 100000 in
theorem writeByte_any (B b : Nat) (l : List UInt8) (c : UInt8) (w : World) (h : Bd B b l w) (hlen : l.length ≤ 70368744177664) (hBw : B ≤ w.heap.size) :
    Calls Tryd.prog 71 #[.pointer (some ⟨b, 0, none⟩), .int .u8 c.toNat] w fun e w' => e = .returned .nilIface ∧ (Bd B b (l ++ [c]) w' ∧ Below B w w') := by
  obtain ⟨i0, hi, hz0, hz1, hz2⟩ := info_parts info_u8
  go_enter Tryd.func71, Tryd.ntmps71
  go_wp2_with (go_at_call 68; refine (copyCheck_any B b _ _ h).mono ?_)
  rintro e w1 ⟨rfl, h1, hb1⟩
  obtain ⟨hB, v, hbk, hown, hne⟩ := h1
  have c0 : w1.cell? ⟨b, 0, none⟩ = some (.pointer (some ⟨b, 0, none⟩)) := by rw [Lib.cell_of_heap hbk]; rfl
  have c1 : w1.cell? ⟨b, 1, none⟩ = some v := by rw [Lib.cell_of_heap hbk]; rfl
  go_wp2_with (at_builtin; refine wpList_append_own _ rfl _ _ 41 rfl B 5 i0 (.int .u8 0) 1 1 Tryd.underlying41 hi hz0 hz1 hz2 rfl (by decide) _ _ _ rfl (hown.alloc _) ⟨w1.heap.size, 0, none⟩ 1 1 [.int .u8 c.toNat] rfl rfl ?c1 ?c2 ?c3 ?c4 ?c5 ?_)
  case c1 =>
    intro j u hj
    match j, hj with
    | 0, hj => simp at hj; subst hj; simp [Addr.add]
  case c2 => intro u hu; simp at hu; subst hu; rfl
  case c3 => rw [u8s_length]; unfold maxLen; omega
  case c4 => rw [u8s_length]; omega
  case c5 => have := hb1.size; simp; omega
  intro v' w2 hown' hgrow _
  have hlt : b < w1.heap.size := by
    rcases Nat.lt_or_ge b w1.heap.size with h' | h'
    · exact h'
    · simp [Array.getElem?_eq_none h'] at hbk
  have hb2 : w2.heap[b]? = some (.cells #[.pointer (some ⟨b, 0, none⟩), v] 121 (0, 0)) := by
    rw [hgrow.block b (by simp; omega) (fun e => hne e.symm), Lib.alloc_old w1 _ b hlt]
    exact hbk
  have d0 : w2.cell? ⟨b, 0, none⟩ = some (.pointer (some ⟨b, 0, none⟩)) := by rw [Lib.cell_of_heap hb2]; rfl
  have d1 : w2.cell? ⟨b, 1, none⟩ = some v := by rw [Lib.cell_of_heap hb2]; rfl
  have f1 : w2.frozen? ⟨b, 1, none⟩ = false := Lib.frozen_of_heap hb2 1
  obtain ⟨g, n', cap, rfl⟩ : ∃ g n' cap, v' = .slice g n' cap := by
    rcases hown'.2 with ⟨hv, _⟩ | ⟨g, cap, cur, hv, _⟩
    · exact ⟨_, _, _, hv⟩
    · exact ⟨_, _, _, hv⟩
  go_wp2
  go_ret
  refine ⟨rfl, .inr ?_, ?_⟩
  · rw [show u8s (l ++ [c]) = u8s l ++ [.int .u8 c.toNat] from u8s_append l [c]]
    exact Lib.BuilderAt.put (T := 121) (e := 5) hB hb2 (bs' := u8s l ++ [.int .u8 c.toNat]) (by simpa using hown') (by decide)
  · exact ((hb1.alloc (by have := hb1.size; omega) _).grown hgrow (by have := hb1.size; simp; omega) (fun k hk => (hown.lt k hk).1)).setCell (p := ⟨b, 1, none⟩) hB _

set_option maxHeartbeats 2000000 in
set_option maxRecDepth 100000 in
theorem write_any (B b : Nat) (l : List UInt8) (ad : Addr) (cap : Nat) (new : List UInt8) (n : Nat) (hn : n = new.length) (w : World) (h : Bd B b l w) (hnew : ∀ W, Below B w W → ∀ j u, (u8s new)[j]? = some u → W.cell? (ad.add j) = some u)
    (hlen : l.length + new.length ≤ 70368744177664) (hBw : B ≤ w.heap.size) :
    Calls Tryd.prog 72 #[.pointer (some ⟨b, 0, none⟩), .slice (some ad) n cap] w fun e w' => (∃ v, e = .returned v) ∧ (Bd B b (l ++ new) w' ∧ Below B w w') := by
  obtain ⟨i0, hi, hz0, hz1, hz2⟩ := info_parts info_u8
  have HW := Lib.hid hnew
  have HN := Lib.hid hn
  clear hnew hn
  go_enter Tryd.func72, Tryd.ntmps72
  go_wp2_with (go_at_call 68; refine (copyCheck_any B b _ _ h).mono ?_)
  rintro e w1 ⟨rfl, h1, hb1⟩
  obtain ⟨hB, v, hbk, hown, hne⟩ := h1
  have c0 : w1.cell? ⟨b, 0, none⟩ = some (.pointer (some ⟨b, 0, none⟩)) := by rw [Lib.cell_of_heap hbk]; rfl
  have c1 : w1.cell? ⟨b, 1, none⟩ = some v := by rw [Lib.cell_of_heap hbk]; rfl
  go_wp2_with (at_builtin; refine wpList_append_own _ rfl _ _ 41 rfl B 5 i0 (.int .u8 0) 1 1 Tryd.underlying41 hi hz0 hz1 hz2 rfl (by decide) _ _ _ rfl hown ad n cap (u8s new) rfl ?c0 (HW.out _ hb1) (u8s_one new) ?c3 ?c4 ?c5 ?_)
  case c0 => rw [u8s_length, HN.out, Nat.mul_one]
  case c3 => rw [u8s_length, HN.out]; unfold maxLen; omega
  case c4 => rw [u8s_length, HN.out]; omega
  case c5 => have := hb1.size; omega
  intro v' w2 hown' hgrow _
  have hlt : b < w1.heap.size := by
    rcases Nat.lt_or_ge b w1.heap.size with h' | h'
    · exact h'
    · simp [Array.getElem?_eq_none h'] at hbk
  have hb2 : w2.heap[b]? = some (.cells #[.pointer (some ⟨b, 0, none⟩), v] 121 (0, 0)) := by
    rw [hgrow.block b hlt (fun e => hne e.symm)]
    exact hbk
  have d0 : w2.cell? ⟨b, 0, none⟩ = some (.pointer (some ⟨b, 0, none⟩)) := by rw [Lib.cell_of_heap hb2]; rfl
  have d1 : w2.cell? ⟨b, 1, none⟩ = some v := by rw [Lib.cell_of_heap hb2]; rfl
  have f1 : w2.frozen? ⟨b, 1, none⟩ = false := Lib.frozen_of_heap hb2 1
  obtain ⟨g, n', cap, rfl⟩ : ∃ g n' cap, v' = .slice g n' cap := by
    rcases hown'.2 with ⟨hv, _⟩ | ⟨g, cap, cur, hv, _⟩
    · exact ⟨_, _, _, hv⟩
    · exact ⟨_, _, _, hv⟩
  have HO := Lib.hid hown'
  clear hown'
  go_wp2
  go_ret2
  have ho := HO.out
  rw [HN.out, show l.length + new.length = (u8s (l ++ new)).length by simp, ← u8s_append] at ho
  refine ⟨⟨_, rfl⟩, .inr ?_, ?_⟩
  · exact Lib.BuilderAt.put (T := 121) (e := 5) hB hb2 (bs' := u8s (l ++ new)) ho (by decide)
  · exact (hb1.grown hgrow (by have := hb1.size; omega) (fun k hk => (hown.lt k hk).1)).setCell (p := ⟨b, 1, none⟩) hB _
end Go.Proofs.YtjbbapodcngnaaaDoor
