/- Steps that come in, opened and shut. -/
import Derived.Test.YtjbbapodcngnaaaGreatDoorZqag
import Derived.Test.YtjbbapodcngnaaaGreatDoorZqaj
import Derived.Deep.Slices
import Derived.Lib.SmallJoins
namespace Go.Proofs.YtjbbapodcngnaaaGreatDoor
open Go.ChangeShapes Go.WideShapes Go.RowKit Hdr

theorem cellsStep : Tryz.prog.cellsOf 56 = 4 := by kernel_rfl
theorem cellsInt : Tryz.prog.cellsOf 3 = 1 := by kernel_rfl
instance : Inhabited St := ⟨⟨0, [], [], 0⟩⟩
theorem laidOutT : laidOutB Tryz.prog = true := by kernel_rfl

section
variable {H : Type} {enc : TypeId × Value → H}

/-- How a step reads. -/
def stD (s : St) : DataW H := .agg [.lit (.int .i64 s.op), .lit (.string s.key), .lit (.string s.val), .lit (.int .i64 s.n)]
def stWf (s : St) : Prop := (Lit.int .i64 s.op).wf = true ∧ (Lit.int .i64 s.n).wf = true ∧ s.key.length ≤ maxLen ∧ s.val.length ≤ maxLen

set_option maxRecDepth 100000 in
theorem step_open {W : World} {sp : Nat → Bool} {n : Nat} {cs : List Value} {x : DataW H × List MemPlace} (h : DataW.trod enc Tryz.prog W 0 sp true n 56 cs = some x) :
    ∃ s : St, cs = [.int .i64 s.op, str s.key, str s.val, .int .i64 s.n] ∧ x = (stD s, []) ∧ stWf s := by
  obtain ⟨y0, y1, y2, y3, m, rfl, hl, t0, t1, t2, t3⟩ := Go.Joins.trod_struct4 Tryz.underlying56 h
  rw [cellsStep] at hl
  match cs, hl with
  | [c0, c1, c2, c3], _ =>
    simp only [cellsInt, cellsStr, List.drop, List.take] at t0 t1 t2 t3
    obtain ⟨N0, h0, rfl, w0⟩ := DataW.trod_int Tryz.underlying3 t0
    obtain ⟨s1, h1, rfl, w1⟩ := DataW.trod_string Tryz.underlying9 t1
    obtain ⟨s2, h2, rfl, w2⟩ := DataW.trod_string Tryz.underlying9 t2
    obtain ⟨N3, h3, rfl, w3⟩ := DataW.trod_int Tryz.underlying3 t3
    simp only [List.cons.injEq, and_true] at h0 h1 h2 h3
    subst h0
    subst h1
    subst h2
    subst h3
    obtain ⟨⟨l1⟩⟩ := s1
    obtain ⟨⟨l2⟩⟩ := s2
    exact ⟨⟨N0, l1, l2, N3⟩, rfl, rfl, w0, w3, w1, w2⟩
set_option maxRecDepth 10000 in
theorem cells4 {W : World} {a : Addr} {x0 x1 x2 x3 : Value} (h : W.cells? 0 a 4 = some [x0, x1, x2, x3]) : W.cell? (a.add 0) = some x0 ∧ W.cell? (a.add 1) = some x1 ∧ W.cell? (a.add 2) = some x2 ∧ W.cell? (a.add 3) = some x3 := by
  unfold World.cells? at h
  rw [if_pos (Nat.zero_le _)] at h
  have e : List.range 4 = [0, 1, 2, 3] := rfl
  rw [e] at h
  simp only [List.mapM_cons, List.mapM_nil] at h
  cases h0 : W.cell? (a.add 0) <;> rw [h0] at h <;> simp at h
  cases h1 : W.cell? (a.add 1) <;> rw [h1] at h <;> simp at h
  cases h2 : W.cell? (a.add 2) <;> rw [h2] at h <;> simp at h
  cases h3 : W.cell? (a.add 3) <;> rw [h3] at h <;> simp at h
  obtain ⟨rfl, rfl, rfl, rfl⟩ := h
  exact ⟨rfl, rfl, rfl, rfl⟩
theorem stc_get : ∀ (ss : List St) (i : Nat) (u : Value), (stc ss)[i]? = some u → ∃ (j k : Nat) (hj : j < ss.length), i = j * 4 + k ∧ k < 4 ∧ ([.int .i64 ss[j].op, str ss[j].key, str ss[j].val, .int .i64 ss[j].n] : List Value)[k]? = some u
  | [], _, _, h => by simp [stc] at h
  | s :: ss, i, u, h => by
    have e : stc (s :: ss) = [.int .i64 s.op, str s.key, str s.val, .int .i64 s.n] ++ stc ss := rfl
    rw [e] at h
    by_cases hi : i < 4
    · rw [List.getElem?_append_left (by simpa using hi)] at h
      exact ⟨0, i, by simp, by omega, hi, h⟩
    · rw [List.getElem?_append_right (by simp; omega)] at h
      obtain ⟨j, k, hj, h1, h2, h3⟩ := stc_get ss _ u h
      simp only [List.length_cons, List.length_nil] at h1
      exact ⟨j + 1, k, by simpa using hj, by omega, h2, h3⟩

set_option maxRecDepth 100000 in
theorem steps_open {W : World} {v : Value} {d : DataW H} {ps : List MemPlace} (hval : Value.okWide Tryz.prog W .any 0 22 v) (h : DataW.Trod enc Tryz.prog W 0 (fun _ => true) true 22 v d ps) : ∃ ss, StepsAt W v ss := by
  obtain ⟨a, len, cap, rfl⟩ := okWide_slice Tryz.underlying22 hval
  obtain ⟨fuel, hf⟩ := h
  have hf' : DataW.trod enc Tryz.prog W 0 (fun _ => true) true fuel 22 [.slice a len cap] = some (d, ps) := hf
  rcases Go.Deep.open_slice Tryz.underlying22 hf' with ⟨hc, hx⟩ | ⟨a', len', cap', m, n, D, Pl, hc, _, hl, hm, hmm, hx, hall⟩
  · simp only [List.cons.injEq, and_true, Value.slice.injEq] at hc
    obtain ⟨rfl, rfl, rfl⟩ := hc
    exact ⟨[], none, 0, rfl, .inl rfl⟩
  · simp only [List.cons.injEq, and_true, Value.slice.injEq] at hc
    obtain ⟨rfl, rfl, rfl⟩ := hc
    simp only [if_true] at hmm
    subst hmm
    rw [cellsStep] at hall
    obtain ⟨F, hF⟩ := Go.Deep.choose_lt (n := m) (p := fun i (s : St) => W.cells? 0 (a'.add (i * 4)) 4 = some [.int .i64 s.op, str s.key, str s.val, .int .i64 s.n]) (fun i hi => by
      obtain ⟨cs', h1, h2⟩ := hall i hi
      obtain ⟨s, rfl, h3, h4⟩ := step_open h2
      exact ⟨s, h1⟩)
    refine ⟨(List.range len).map F, some a', m, by simp, ?_⟩
    cases len with
    | zero => exact .inl rfl
    | succ len =>
      right
      obtain ⟨b, o, spot⟩ := a'
      have h0 := cells4 (hF 0 (by omega))
      have hspot : spot = none := by
        have := World.cell?_spot h0.1
        simpa [Addr.add] using this
      subst hspot
      refine ⟨b, o, rfl, by simpa using hl, World.block_lt_of_cell? W _ h0.1, fun i u hu => ?_⟩
      obtain ⟨j, k, hj, rfl, hk, hu⟩ := stc_get _ i u hu
      simp only [List.length_map, List.length_range] at hj
      simp only [List.getElem_map, List.getElem_range] at hu
      have hc := cells4 (hF j (by omega))
      simp only [Go.Deep.add_add] at hc
      have hadd : ∀ i, (⟨b, o, none⟩ : Addr).add i = ⟨b, o + i, none⟩ := fun i => by unfold Addr.add; split <;> simp_all
      simp only [hadd] at hc
      have h4 : k = 0 ∨ k = 1 ∨ k = 2 ∨ k = 3 := by omega
      rcases h4 with rfl | rfl | rfl | rfl
      · obtain rfl : _ = u := Option.some.inj hu
        exact hc.1
      · obtain rfl : _ = u := Option.some.inj hu
        exact hc.2.1
      · obtain rfl : _ = u := Option.some.inj hu
        exact hc.2.2.1
      · obtain rfl : _ = u := Option.some.inj hu
        exact hc.2.2.2
end
end Go.Proofs.YtjbbapodcngnaaaGreatDoor
