import Derived.Test.YtjbbapodcngnaaaDoorBufB
import Derived.Deep.CutBlock
namespace Go.Proofs.YtjbbapodcngnaaaDoor
open Go.RowKit

/-- A bufio.Reader at block b, laid open. -/
structure RdD (w : World) (b g s : Nat) (src : ByteArray) (r q i : Nat) (err : Value) (lb lr p : Int) (data : List UInt8) : Prop where
  hd : data.length = 4096
  hrq : r ≤ q
  hq : q ≤ 4096
  hi : i ≤ src.size
  B : Blk w b (brc g s r q err lb lr) 108
  G : Blk w g (u8s data) 5
  S : Blk w s (src3 src i p) 95

/-- What is still to be read. -/
def rest (src : ByteArray) (r q i : Nat) (data : List UInt8) : List UInt8 := (data.drop r).take (q - r) ++ src.data.toList.drop i

/-- The package variables that are read: below N. -/
structure Laid (N : Nat) (ea : Addr) (w : World) : Prop where
  hN : 7 ≤ N
  eof : w.cell? ⟨2, 0, none⟩ = some (.iface 109 (.pointer (some ea)))
  eb : ea.block < N
  ec : ∃ ca ta, w.heap[ea.block]? = some (.cells ca ta (0, 0))
  full : ∃ fa : Addr, w.cell? ⟨1, 0, none⟩ = some (.iface 109 (.pointer (some fa))) ∧ fa.block < N ∧ (∃ ca ta, w.heap[fa.block]? = some (.cells ca ta (0, 0))) ∧ ea ≠ fa

theorem lt_of_cells {w : World} {k : Nat} {ca : Array Value} {ta : TypeId} {f : Nat × Nat} (h : w.heap[k]? = some (.cells ca ta f)) : k < w.heap.size := (Array.getElem?_eq_some_iff.1 h).1

theorem Laid.keep {N : Nat} {ea : Addr} {w w' : World} {S : Nat → Prop} (h : Laid N ea w) (k : Keeps S w w') (hS : ∀ x, S x → N ≤ x) : Laid N ea w' := by
  have hN := h.hN
  obtain ⟨ca, ta, hc⟩ := h.ec
  have heb := h.eb
  obtain ⟨fa, h1, h2, ⟨cb, tb, h3⟩, h4⟩ := h.full
  refine ⟨hN, k.cell h.eof (fun hx => by have := hS _ hx; simp at this; omega), heb, ⟨ca, ta, ?_⟩, fa, k.cell h1 (fun hx => by have := hS _ hx; simp at this; omega), h2, ⟨cb, tb, ?_⟩, h4⟩
  · exact (k.block _ (lt_of_cells hc) (fun hx => by have := hS _ hx; omega)).trans hc
  · exact (k.block _ (lt_of_cells h3) (fun hx => by have := hS _ hx; omega)).trans h3
theorem Laid.keep_no {N : Nat} {ea : Addr} {w w' : World} (h : Laid N ea w) (k : Keeps No w w') : Laid N ea w' := h.keep k (fun _ h => h.elim)

/-- What lies around a reader. -/
structure Env (N b g s : Nat) (src : ByteArray) (ea : Addr) (w : World) : Prop where
  hsz : src.size ≤ 1000000000
  hB : N ≤ b
  hG : N ≤ g
  hS : N ≤ s
  laid : Laid N ea w

theorem Env.keep {N b g s : Nat} {src : ByteArray} {ea : Addr} {w w' : World} (h : Env N b g s src ea w) {l : List Nat} (k : Keeps (In l) w w') (hl : ∀ x ∈ l, N ≤ x) : Env N b g s src ea w' :=
  ⟨h.hsz, h.hB, h.hG, h.hS, h.laid.keep k (fun x hx => hl x hx)⟩
theorem Env.keep3 {N b g s : Nat} {src : ByteArray} {ea : Addr} {w w' : World} (h : Env N b g s src ea w) (k : Keeps (In [b, g, s]) w w') : Env N b g s src ea w' :=
  h.keep k (fun x hx => by have := h.hB; have := h.hG; have := h.hS; simp at hx; omega)
theorem Env.keep_no {N b g s : Nat} {src : ByteArray} {ea : Addr} {w w' : World} (h : Env N b g s src ea w) (k : Keeps No w w') : Env N b g s src ea w' := ⟨h.hsz, h.hB, h.hG, h.hS, h.laid.keep_no k⟩
theorem Env.drewN {N b g s : Nat} {src : ByteArray} {ea : Addr} {w : World} (h : Env N b g s src ea w) (n : Nat) : Env N b g s src ea (w.drewN n) := h.keep_no ((Keeps.refl _ _).drewN n)
theorem Env.gB {N b g s : Nat} {src : ByteArray} {ea : Addr} {w : World} (h : Env N b g s src ea w) : 7 ≤ b := Nat.le_trans h.laid.hN h.hB
theorem Env.gG {N b g s : Nat} {src : ByteArray} {ea : Addr} {w : World} (h : Env N b g s src ea w) : 7 ≤ g := Nat.le_trans h.laid.hN h.hG
theorem Env.gS {N b g s : Nat} {src : ByteArray} {ea : Addr} {w : World} (h : Env N b g s src ea w) : 7 ≤ s := Nat.le_trans h.laid.hN h.hS

section
variable {w : World} {b g s : Nat} {src : ByteArray} {r q i : Nat} {err : Value} {lb lr p : Int} {data : List UInt8}
theorem RdD.bg (h : RdD w b g s src r q i err lb lr p data) : b ≠ g := h.B.ne h.G (by decide)
theorem RdD.bs (h : RdD w b g s src r q i err lb lr p data) : b ≠ s := h.B.ne h.S (by decide)
theorem RdD.sg (h : RdD w b g s src r q i err lb lr p data) : s ≠ g := h.S.ne h.G (by decide)
theorem RdD.cells (h : RdD w b g s src r q i err lb lr p data) : w.cell? ⟨b, 0, none⟩ = some (.slice (some ⟨g, 0, none⟩) 4096 4096) ∧ w.cell? ⟨b, 2, none⟩ = some (.int .i64 r) ∧ w.cell? ⟨b, 3, none⟩ = some (.int .i64 q) ∧
    w.cell? ⟨b, 4, none⟩ = some err ∧ w.cell? ⟨b, 5, none⟩ = some (.int .i64 lb) ∧ w.cell? ⟨b, 6, none⟩ = some (.int .i64 lr) :=
  ⟨h.B.cell 0, h.B.cell 2, h.B.cell 3, h.B.cell 4, h.B.cell 5, h.B.cell 6⟩
theorem RdD.drewN (h : RdD w b g s src r q i err lb lr p data) (n : Nat) : RdD (w.drewN n) b g s src r q i err lb lr p data := ⟨h.hd, h.hrq, h.hq, h.hi, h.B, h.G, h.S⟩
/-- Other cells of the reader itself. -/
theorem RdD.to (h : RdD w b g s src r q i err lb lr p data) {w' : World} (k : Keeps (In [b]) w w') {r' q' : Nat} {err' : Value} {lb' lr' : Int} (hrq : r' ≤ q') (hq : q' ≤ 4096)
    (B : Blk w' b (brc g s r' q' err' lb' lr') 108) : RdD w' b g s src r' q' i err' lb' lr' p data :=
  have h1 := h.bg
  have h2 := h.bs
  ⟨h.hd, hrq, hq, h.hi, B, h.G.keep k (fun h => by simp only [In, List.mem_cons, List.not_mem_nil, or_false] at h; omega), h.S.keep k (fun h => by simp only [In, List.mem_cons, List.not_mem_nil, or_false] at h; omega)⟩
theorem RdD.at_ (h : RdD w b g s src r q i err lb lr p data) (j : Nat) (hj : j < 4096) : w.cell? ⟨g, j, none⟩ = some (byt (data[j]'(by rw [h.hd]; exact hj))) := by
  rw [h.G.cell j, u8s_get]
  simp [h.hd, hj]
end

theorem rest_end {src : ByteArray} {r q i : Nat} {data : List UInt8} (hi : src.size ≤ i) : rest src r q i data = (data.drop r).take (q - r) := by
  have h : src.data.toList.drop i = [] := List.drop_eq_nil_of_le (by rw [str_size]; exact hi)
  unfold rest
  rw [h, List.append_nil]

theorem rest_fill {src : ByteArray} {r q i n : Nat} {data data' : List UInt8} (h : data'.take (q - r + n) = (data.drop r).take (q - r) ++ (src.data.toList.drop i).take n) :
    rest src 0 (q - r + n) (i + n) data' = rest src r q i data := by
  unfold rest
  rw [List.drop_zero, Nat.sub_zero, h, List.append_assoc]
  congr 1
  rw [← List.drop_drop, List.take_append_drop]

theorem fill_rd (b g s r q i : Nat) (src : ByteArray) (err : Value) (ea : Addr) (lb lr p : Int) (data : List UInt8) (w : World) (h : RdD w b g s src r q i err lb lr p data) (hf : q - r < 4096) {N : Nat} (E : Env N b g s src ea w) :
    Calls Tryd.prog 55 #[.pointer (some ⟨b, 0, none⟩)] w fun e w' => e = .returned (.tuple #[]) ∧
      ∃ (data' : List UInt8) (n : Nat) (err' : Value) (p' : Int), RdD w' b g s src 0 (q - r + n) (i + n) err' lb lr p' data' ∧ (i < src.size → 0 < n ∧ err' = err) ∧ (src.size ≤ i → n = 0 ∧ err' = (.iface 109 (.pointer (some ea)))) ∧
        rest src 0 (q - r + n) (i + n) data' = rest src r q i data ∧ data'.take (q - r) = (data.drop r).take (q - r) ∧ Keeps (In [b, g, s]) w w' := by
  refine (fill_any b g s r q i src err ea lb lr p data w h.hd h.hrq h.hq hf h.hi E.hsz h.B h.G h.S E.laid.eof E.gB E.gG E.gS).mono ?_
  rintro e w' ⟨rfl, data', n, err', p', h1, h2, h3, h4, h5, B, G, S, ht, K⟩
  refine ⟨rfl, data', n, err', p', ⟨h1, Nat.zero_le _, h2, h3, B, G, S⟩, h4, h5, rest_fill ht, ?_, K⟩
  have h6 : (data'.take (q - r + n)).take (q - r) = data'.take (q - r) := by rw [List.take_take]; congr 1; omega
  have hl : ((data.drop r).take (q - r)).length = q - r := by have := h.hd; have := h.hq; simp; omega
  rw [← h6, ht, List.take_left' hl]

/-- readErr hands the error over, and forgets it. -/
theorem readErr_any (b : Nat) (cs : List Value) (err : Value) (w : World) (hb : Blk w b cs 108) (h4 : cs[4]? = some err) :
    Calls Tryd.prog 56 #[.pointer (some ⟨b, 0, none⟩)] w fun e w' => e = .returned err ∧ w.setCell ⟨b, 4, none⟩ .nilIface = w' := by
  have h := (hb.cell 4).trans h4
  have f := hb.frozen 4
  go_enter Tryd.func56, Tryd.ntmps56
  go_wp2
  go_ret
  exact ⟨rfl, rfl⟩

theorem w64_u8 (c : UInt8) : wrap64 (c.toNat : Int) = c.toNat := by have := c.toNat_lt; unfold wrap64; omega

theorem rest_cons {src : ByteArray} {r q i : Nat} {data : List UInt8} (hd : data.length = 4096) (hrq : r < q) (hq : q ≤ 4096) : rest src r q i data = data[r]'(by omega) :: rest src (r + 1) q i data := by
  unfold rest
  rw [List.drop_eq_getElem_cons (by omega), show q - r = (q - (r + 1)) + 1 by omega, List.take_succ_cons, List.cons_append]

set_option maxRecDepth 100000 in
set_option maxHeartbeats 400000 in
theorem readByte_some (b g s r q i : Nat) (src : ByteArray) (ea : Addr) (lb lr p : Int) (data : List UInt8) (w : World) (h : RdD w b g s src r q i .nilIface lb lr p data) {N : Nat} (E : Env N b g s src ea w) (c : UInt8) (c' : List UInt8) (hc : rest src r q i data = c :: c') :
    Calls Tryd.prog 66 #[.pointer (some ⟨b, 0, none⟩)] w fun e w' => e = .returned (.tuple #[.int .u8 c.toNat, .nilIface]) ∧
      ∃ (r' q' i' : Nat) (p' : Int) (data' : List UInt8), RdD w' b g s src (r' + 1) q' i' .nilIface c.toNat (-1) p' data' ∧ rest src (r' + 1) q' i' data' = c' ∧ data'[r']? = some c ∧ Keeps (In [b, g, s]) w w' := by
  obtain ⟨h0, h2, h3, h4, h5, h6⟩ := h.cells
  have fz := h.B.frozen
  have H := Lib.hid h
  have HE := Lib.hid E
  have HC := Lib.hid hc
  have hrq := h.hrq
  have hq := h.hq
  have hbg := h.bg
  clear h hc E
  go_enter Tryd.func66, Tryd.ntmps66
  go_upto_block 0 with (fail)
  go_cut [] (fun wx => ∃ (r' q' i' : Nat) (p' : Int) (data' : List UInt8), RdD wx b g s src r' q' i' .nilIface lb (-1) p' data' ∧ r' < q' ∧ rest src r' q' i' data' = c :: c' ∧ Keeps (In [b, g, s]) w wx)
  case first =>
    by_cases hlt : r < q
    · have e1 : ((r : Int) == (q : Int)) = false := by simp; omega
      have e2 : (r == q) = false := by simp; omega
      go_wp2
      refine wp_loop_rounds 1 ?_
      rw [rounds_succ]
      go_wp2
      go_quiet (fail)
      go_wp2
      go_meet
      exact ⟨r, q, i, p, data, H.out.to (by repeat (first | assumption | exact Keeps.refl _ _ | apply Keeps.drewN | apply Keeps.drew | apply Keeps.alloc | (refine Keeps.setCell ?_ (.inl (by simp [In])) _))) hrq hq (((H.out.B.set 6 _).drewN _).to rfl), hlt, HC.out, (by repeat (first | assumption | exact Keeps.refl _ _ | apply Keeps.drewN | apply Keeps.drew | apply Keeps.alloc | (refine Keeps.setCell ?_ (.inl (by simp [In])) _)))⟩
    · obtain rfl : r = q := by omega
      have hi : i < src.size := by
        rcases Nat.lt_or_ge i src.size with h | h
        · exact h
        · have h1 := HC.out
          have h2 : src.data.toList.drop i = [] := List.drop_eq_nil_of_le (by rw [str_size]; exact h)
          unfold rest at h1
          rw [h2] at h1
          simp at h1
      go_wp2
      refine wp_loop_rounds 2 ?_
      rw [rounds_succ]
      go_wp2
      go_quiet (fail)
      go_wp2_with (fail)
      refine calls_as fun W1 hW1 => ?_
      obtain ⟨R1, K1⟩ : RdD W1 b g s src r r i .nilIface lb (-1) p data ∧ Keeps (In [b]) w W1 := by
        subst hW1
        exact ⟨H.out.to (by repeat (first | assumption | exact Keeps.refl _ _ | apply Keeps.drewN | apply Keeps.drew | apply Keeps.alloc | (refine Keeps.setCell ?_ (.inl (by simp [In])) _))) hrq hq (((H.out.B.set 6 _).drewN _).to rfl), (by repeat (first | assumption | exact Keeps.refl _ _ | apply Keeps.drewN | apply Keeps.drew | apply Keeps.alloc | (refine Keeps.setCell ?_ (.inl (by simp [In])) _)))⟩
      clear hW1 h0 h2 h3 h4 h5 h6 fz
      refine (fill_rd b g s r r i src .nilIface ea lb (-1) p data W1 R1 (by omega) (HE.out.keep K1 (by simpa using HE.out.hB))).mono ?_
      rintro e W2 ⟨rfl, data', n, err', p', R2, hn, -, hr, -, K2⟩
      obtain ⟨hn, rfl⟩ := hn hi
      obtain ⟨h0, h2, h3, h4, h5, h6⟩ := R2.cells
      have HR := Lib.hid R2
      have HC2 := Lib.hid hr
      have e1 : ((0 : Int) == ((r - r + n : Nat) : Int)) = false := by simp; omega
      clear R2 hr
      go_wp2
      rw [rounds_succ]
      go_wp2
      go_quiet (fail)
      go_wp2
      go_meet
      exact ⟨0, _, _, p', data', HR.out.drewN _, by omega, HC2.out.trans HC.out, ((K1.mono (fun _ _ h => by simp only [In, List.mem_cons, List.not_mem_nil, or_false] at h ⊢; omega)).trans K2 (fun _ _ h => by simp only [In, List.mem_cons, List.not_mem_nil, or_false] at h ⊢; omega)).drewN _⟩
  case rest =>
    obtain ⟨r', q', i', p', data', R1, hlt, hr1, K1⟩ := hcut
    clear h0 h2 h3 h4 h5 h6 fz hrq hq
    obtain ⟨h0, h2, h3, h4, h5, h6⟩ := R1.cells
    have fz := R1.B.frozen
    have hq := R1.hq
    rw [rest_cons R1.hd hlt hq] at hr1
    have hr4 : r' < 4096 := by omega
    have hx := R1.at_ r' hr4
    injection hr1 with hr2 hr3
    rw [hr2] at hx
    unfold byt at hx
    have HR := Lib.hid R1
    have hx' : data'[r']? = some c := by rw [List.getElem?_eq_getElem (by rw [R1.hd]; exact hr4), hr2]
    have HX := Lib.hid hx'
    have HY := Lib.hid hr3
    have b1 : (r' : Int) < 4096 := by omega
    have hw := w64_u8 c
    clear hx' hr2 hr3
    clear R1
    go_wp2
    go_quiet (fail)
    go_wp2
    go_ret2
    refine ⟨rfl, r', q', i', p', data', HR.out.to (by repeat (first | assumption | exact Keeps.refl _ _ | apply Keeps.drewN | apply Keeps.drew | apply Keeps.alloc | (refine Keeps.setCell ?_ (.inl (by simp [In])) _))) hlt hq (((HR.out.B.set 2 _).set 5 _).to (by simp [brc])), HY.out, HX.out, (by repeat (first | assumption | exact Keeps.refl _ _ | apply Keeps.drewN | apply Keeps.drew | apply Keeps.alloc | (refine Keeps.setCell ?_ (.inl (by simp [In])) _)))⟩

set_option maxRecDepth 100000 in
set_option maxHeartbeats 400000 in
theorem readByte_none (b g s r q i : Nat) (src : ByteArray) (ea : Addr) (lb lr p : Int) (data : List UInt8) (w : World) (h : RdD w b g s src r q i .nilIface lb lr p data) {N : Nat} (E : Env N b g s src ea w) (hc : rest src r q i data = []) :
    Calls Tryd.prog 66 #[.pointer (some ⟨b, 0, none⟩)] w fun e w' => e = .returned (.tuple #[.int .u8 0, (.iface 109 (.pointer (some ea)))]) ∧
      ∃ (r' q' i' : Nat) (p' : Int) (data' : List UInt8), RdD w' b g s src r' q' i' .nilIface lb (-1) p' data' ∧ rest src r' q' i' data' = [] ∧ Keeps (In [b, g, s]) w w' := by
  obtain ⟨h0, h2, h3, h4, h5, h6⟩ := h.cells
  have fz := h.B.frozen
  have hd := h.hd
  have hrq := h.hrq
  have hq := h.hq
  have hbg := h.bg
  obtain ⟨hq0, hi0⟩ : r = q ∧ src.size ≤ i := by
    have h1 := congrArg List.length hc
    unfold rest at h1
    have h2 := str_size src
    simp at h1
    omega
  subst hq0
  have H := Lib.hid h
  have HE := Lib.hid E
  have HC := Lib.hid hc
  clear h hc E hd
  go_enter Tryd.func66, Tryd.ntmps66
  go_wp2
  refine wp_loop_rounds 2 ?_
  rw [rounds_succ]
  go_wp2
  go_quiet (fail)
  go_wp2_with (fail)
  refine calls_as fun W1 hW1 => ?_
  obtain ⟨R1, K1⟩ : RdD W1 b g s src r r i .nilIface lb (-1) p data ∧ Keeps (In [b]) w W1 := by
    subst hW1
    exact ⟨H.out.to (by repeat (first | assumption | exact Keeps.refl _ _ | apply Keeps.drewN | apply Keeps.drew | apply Keeps.alloc | (refine Keeps.setCell ?_ (.inl (by simp [In])) _))) hrq hq (((H.out.B.set 6 _).drewN _).to rfl), (by repeat (first | assumption | exact Keeps.refl _ _ | apply Keeps.drewN | apply Keeps.drew | apply Keeps.alloc | (refine Keeps.setCell ?_ (.inl (by simp [In])) _)))⟩
  clear hW1 h0 h2 h3 h4 h5 h6 fz
  refine (fill_rd b g s r r i src .nilIface ea lb (-1) p data W1 R1 (by omega) (HE.out.keep K1 (by simpa using HE.out.hB))).mono ?_
  rintro e W2 ⟨rfl, data', n, err', p', R2, -, hn, hr, -, K2⟩
  obtain ⟨rfl, rfl⟩ := hn hi0
  obtain ⟨h0, h2, h3, h4, h5, h6⟩ := R2.cells
  have fz := R2.B.frozen
  have HR := Lib.hid R2
  have HC2 := Lib.hid hr
  have e1 : ((0 : Int) == ((r - r + 0 : Nat) : Int)) = true := by simp
  clear R2 hr
  go_wp2
  rw [rounds_succ]
  go_wp2
  go_quiet (fail)
  go_wp2_with (go_at_call 56; refine (readErr_any b _ _ _ (HR.out.B.drewN _) rfl).mono ?_; rintro e w3 ⟨rfl, rfl⟩)
  go_ret2
  refine ⟨rfl, 0, r - r + 0, i + 0, p', data', HR.out.to (by repeat (first | assumption | exact Keeps.refl _ _ | apply Keeps.drewN | apply Keeps.drew | apply Keeps.alloc | (refine Keeps.setCell ?_ (.inl (by simp [In])) _))) (by omega) (by omega) (((HR.out.B.drewN _).set 4 _).to rfl), HC2.out.trans HC.out, ?_⟩
  exact (((K1.mono (fun _ _ h => by simp only [In, List.mem_cons, List.not_mem_nil, or_false] at h ⊢; omega)).trans K2 (fun _ _ h => by simp only [In, List.mem_cons, List.not_mem_nil, or_false] at h ⊢; omega)).drewN _).setCell (.inl (by simp [In])) _
end Go.Proofs.YtjbbapodcngnaaaDoor
