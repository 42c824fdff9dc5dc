import Derived.Test.YtjbbapodcngnaaaDoorBufD
namespace Go.Proofs.YtjbbapodcngnaaaDoor
open Go.RowKit

/-- Peek(1): the next byte. -/
def PeekPost (b g s : Nat) (src : ByteArray) (x : UInt8) (c : List UInt8) (w : World) (e : Ending) (w' : World) : Prop :=
  ∃ o cap : Nat, e = .returned (.tuple #[.slice (some ⟨g, o, none⟩) 1 cap, .nilIface]) ∧ w'.cell? ⟨g, o, none⟩ = some (byt x) ∧ Rd w' b g s src (x :: c) ∧ Keeps (In [b, g, s]) w w'

set_option maxRecDepth 100000 in
set_option maxHeartbeats 1000000 in
theorem peek_some (b g s : Nat) (src : ByteArray) (ea : Addr) (w : World) (x : UInt8) (c : List UInt8) (h : Rd w b g s src (x :: c)) {N : Nat} (E : Env N b g s src ea w) :
    Calls Tryd.prog 43 #[.pointer (some ⟨b, 0, none⟩), .int .i64 1] w (PeekPost b g s src x c w) := by
  obtain ⟨r, q, i, lb, lr, p, data, h, hc⟩ := h
  obtain ⟨h0, h2, h3, h4, h5, h6⟩ := h.cells
  have fz := h.B.frozen
  have H := Lib.hid h
  have HE := Lib.hid E
  have HC := Lib.hid hc
  have hrq := h.hrq
  have hq := h.hq
  clear h hc E
  go_enter Tryd.func43, Tryd.ntmps43
  go_upto_block 0 with (fail)
  go_cut [] (fun wx => ∃ (r' q' i' : Nat) (p' : Int) (data' : List UInt8), RdD wx b g s src r' q' i' .nilIface (-1) (-1) p' data' ∧ r' < q' ∧ rest src r' q' i' data' = x :: c ∧ Keeps (In [b, g, s]) w wx)
  case first =>
    by_cases hlt : r < q
    · have e1 : decide ((q : Int) - r < 1) = false := decide_eq_false (by omega)
      have e2 : (1 : Int) ≤ (q : Int) - r := by omega
      go_wp2
      refine wp_loop_rounds 1 ?_
      rw [rounds_succ]
      go_wp2
      go_quiet (fail)
      go_wp2
      go_meet
      exact ⟨r, q, i, p, data, H.out.to (by repeat (first | assumption | exact Keeps.refl _ _ | apply Keeps.drewN | apply Keeps.drew | apply Keeps.alloc | (refine Keeps.setCell ?_ (.inl (by simp [In])) _))) hrq hq ((((H.out.B.set 5 _).set 6 _).drewN _).to rfl), hlt, HC.out, (by repeat (first | assumption | exact Keeps.refl _ _ | apply Keeps.drewN | apply Keeps.drew | apply Keeps.alloc | (refine Keeps.setCell ?_ (.inl (by simp [In])) _)))⟩
    · obtain rfl : r = q := by omega
      have hi : i < src.size := by
        rcases Nat.lt_or_ge i src.size with h | h
        · exact h
        · have h1 := HC.out
          have h2 : src.data.toList.drop i = [] := List.drop_eq_nil_of_le (by rw [str_size]; exact h)
          unfold rest at h1
          rw [h2] at h1
          simp at h1
      go_wp2
      refine wp_loop_rounds 2 ?_
      rw [rounds_succ]
      go_wp2
      go_quiet (fail)
      go_wp2_with (fail)
      refine calls_as fun W1 hW1 => ?_
      obtain ⟨R1, K1⟩ : RdD W1 b g s src r r i .nilIface (-1) (-1) p data ∧ Keeps (In [b]) w W1 := by
        subst hW1
        exact ⟨H.out.to (by repeat (first | assumption | exact Keeps.refl _ _ | apply Keeps.drewN | apply Keeps.drew | apply Keeps.alloc | (refine Keeps.setCell ?_ (.inl (by simp [In])) _))) hrq hq ((((H.out.B.set 5 _).set 6 _).drewN _).to rfl), (by repeat (first | assumption | exact Keeps.refl _ _ | apply Keeps.drewN | apply Keeps.drew | apply Keeps.alloc | (refine Keeps.setCell ?_ (.inl (by simp [In])) _)))⟩
      clear hW1 h0 h2 h3 h4 h5 h6 fz
      refine (fill_rd b g s r r i src .nilIface ea (-1) (-1) p data W1 R1 (by omega) (HE.out.keep K1 (by simpa using HE.out.hB))).mono ?_
      rintro e W2 ⟨rfl, data', n, err', p', R2, hn, -, hr, -, K2⟩
      obtain ⟨hn, rfl⟩ := hn hi
      obtain ⟨h0, h2, h3, h4, h5, h6⟩ := R2.cells
      have HR := Lib.hid R2
      have HC2 := Lib.hid hr
      have e3 : (1 : Int) ≤ (n : Int) := by omega
      have e1 : decide ((n : Int) < 1) = false := decide_eq_false (by omega)
      have e5 : (n : Int) ≤ 4096 := by have := R2.hq; omega
      have e4 : ((r - r + n : Nat) : Int) = n := by omega
      rw [e4] at h3
      clear R2 hr e4
      go_wp2
      rw [rounds_succ]
      go_wp2
      go_quiet (fail)
      go_wp2
      go_meet
      exact ⟨0, _, _, p', data', HR.out.drewN _, by omega, HC2.out.trans HC.out, ((K1.mono (fun _ _ h => by simp only [In, List.mem_cons, List.not_mem_nil, or_false] at h ⊢; omega)).trans K2 (fun _ _ h => by simp only [In, List.mem_cons, List.not_mem_nil, or_false] at h ⊢; omega)).drewN _⟩
  case rest =>
    obtain ⟨r', q', i', p', data', R1, hlt, hr1, K1⟩ := hcut
    clear h0 h2 h3 h4 h5 h6 fz hrq hq
    obtain ⟨h0, h2, h3, h4, h5, h6⟩ := R1.cells
    have hq := R1.hq
    have hr2 := hr1
    rw [rest_cons R1.hd hlt hq] at hr2
    have hr4 : r' < 4096 := by omega
    have hx := R1.at_ r' hr4
    injection hr2 with hr2 hr3
    rw [hr2] at hx
    have HR := Lib.hid R1
    have HX := Lib.hid hx
    have HY := Lib.hid hr1
    have b1 : (r' : Int) ≤ 4096 := by omega
    have b2 : (r' : Int) + 1 ≤ 4096 := by omega
    have e1 : decide ((q' : Int) - r' < 1) = false := decide_eq_false (by omega)
    have e2 : (1 : Int) ≤ (q' : Int) - r' := by omega
    clear hr1 hr2 hr3 hx
    clear R1
    go_wp2
    go_quiet (fail)
    go_wp2
    go_quiet (fail)
    go_wp2
    go_ret2
    refine ⟨r', 4096 - r', rfl, HX.out, ⟨r', q', i', -1, -1, p', data', (HR.out.drewN _).drewN _, HY.out⟩, (K1.drewN _).drewN _⟩

/-- Peek(1) at the end. -/
def PeekEnd (b g s : Nat) (src : ByteArray) (ea : Addr) (w : World) (e : Ending) (w' : World) : Prop :=
  ∃ o cap : Nat, e = .returned (.tuple #[.slice (some ⟨g, o, none⟩) 0 cap, (.iface 109 (.pointer (some ea)))]) ∧ Rd w' b g s src [] ∧ Keeps (In [b, g, s]) w w'

set_option maxRecDepth 100000 in
set_option maxHeartbeats 1000000 in
theorem peek_none (b g s : Nat) (src : ByteArray) (ea : Addr) (w : World) (h : Rd w b g s src []) {N : Nat} (E : Env N b g s src ea w) :
    Calls Tryd.prog 43 #[.pointer (some ⟨b, 0, none⟩), .int .i64 1] w (PeekEnd b g s src ea w) := by
  obtain ⟨r, q, i, lb, lr, p, data, h, hc⟩ := h
  obtain ⟨h0, h2, h3, h4, h5, h6⟩ := h.cells
  have fz := h.B.frozen
  have hrq := h.hrq
  have hq := h.hq
  have hd := h.hd
  obtain ⟨hq0, hi0⟩ : r = q ∧ src.size ≤ i := by
    have h1 := congrArg List.length hc
    unfold rest at h1
    have h2 := str_size src
    simp at h1
    omega
  subst hq0
  have H := Lib.hid h
  have HE := Lib.hid E
  have HC := Lib.hid hc
  clear h hc E hd
  go_enter Tryd.func43, Tryd.ntmps43
  go_wp2
  refine wp_loop_rounds 2 ?_
  rw [rounds_succ]
  go_wp2
  go_quiet (fail)
  go_wp2_with (fail)
  refine calls_as fun W1 hW1 => ?_
  obtain ⟨R1, K1⟩ : RdD W1 b g s src r r i .nilIface (-1) (-1) p data ∧ Keeps (In [b]) w W1 := by
    subst hW1
    exact ⟨H.out.to (by repeat (first | assumption | exact Keeps.refl _ _ | apply Keeps.drewN | apply Keeps.drew | apply Keeps.alloc | (refine Keeps.setCell ?_ (.inl (by simp [In])) _))) hrq hq ((((H.out.B.set 5 _).set 6 _).drewN _).to rfl), (by repeat (first | assumption | exact Keeps.refl _ _ | apply Keeps.drewN | apply Keeps.drew | apply Keeps.alloc | (refine Keeps.setCell ?_ (.inl (by simp [In])) _)))⟩
  clear hW1 h0 h2 h3 h4 h5 h6 fz
  refine (fill_rd b g s r r i src .nilIface ea (-1) (-1) p data W1 R1 (by omega) (HE.out.keep K1 (by simpa using HE.out.hB))).mono ?_
  rintro e W2 ⟨rfl, data', n, err', p', R2, -, hn, hr, -, K2⟩
  obtain ⟨rfl, rfl⟩ := hn hi0
  obtain ⟨h0, h2, h3, h4, h5, h6⟩ := R2.cells
  have fz := R2.B.frozen
  have HR := Lib.hid R2
  have HC2 := Lib.hid hr
  have e4 : ((r - r + 0 : Nat) : Int) = 0 := by omega
  rw [e4] at h3
  clear R2 hr e4
  go_wp2
  rw [rounds_succ]
  go_wp2
  go_quiet (fail)
  go_wp2
  go_quiet (fail)
  go_wp2_with (go_at_call 56; refine (readErr_any b _ _ _ (HR.out.B.drewN _) rfl).mono ?_; rintro e w3 ⟨rfl, rfl⟩)
  go_quiet (fail)
  go_wp2
  go_ret2
  refine ⟨cutAt 0 0 4096 1, 4096, rfl, ⟨0, r - r + 0, i + 0, -1, -1, p', data', HR.out.to (by repeat (first | assumption | exact Keeps.refl _ _ | apply Keeps.drewN | apply Keeps.drew | apply Keeps.alloc | (refine Keeps.setCell ?_ (.inl (by simp [In])) _))) (by omega) (by omega) ((((HR.out.B.drewN _).set 4 _).drewN _).to rfl), HC2.out.trans HC.out⟩, ?_⟩
  exact ((((K1.mono (fun _ _ h => by simp only [In, List.mem_cons, List.not_mem_nil, or_false] at h ⊢; omega)).trans K2 (fun _ _ h => by simp only [In, List.mem_cons, List.not_mem_nil, or_false] at h ⊢; omega)).drewN _).setCell (.inl (by simp [In])) _).drewN _

theorem buffered (b : Nat) (cs : List Value) (r q : Nat) (w : World) (hb : Blk w b cs 108) (h2 : cs[2]? = some (.int .i64 r)) (h3 : cs[3]? = some (.int .i64 q)) (hrq : r ≤ q) (hq : q ≤ 4096) :
    Calls Tryd.prog 36 #[.pointer (some ⟨b, 0, none⟩)] w fun e w' => e = .returned (.int .i64 ((q : Int) - r)) ∧ ∃ n, w' = w.drewN n := by
  have c2 := (hb.cell 2).trans h2
  have c3 := (hb.cell 3).trans h3
  go_enter Tryd.func36, Tryd.ntmps36
  go_wp2
  go_quiet (fail)
  go_wp2
  go_ret
  exact ⟨rfl, _, rfl⟩

end Go.Proofs.YtjbbapodcngnaaaDoor
