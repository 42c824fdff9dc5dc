/- newHeader, newHeaderField. -/
import Derived.Test.YtjbbapodcngnaaaDoorMapC
namespace Go.Proofs.YtjbbapodcngnaaaDoor
open Go.RowKit Hdr

/-- Pointers begin block lb; it is ours to write. -/
def POwn (w : World) (lb : Nat) (l : List Nat) : Prop := ∃ more, Blk w lb (ptrs l ++ more) 67
theorem POwn.ptrs {w : World} {lb : Nat} {l : List Nat} (h : POwn w lb l) : PtrsAt w lb l := by
  obtain ⟨more, h⟩ := h
  exact ⟨_, _, h, by simp [List.take_left']⟩
theorem PtrsAt.cell_of {w : World} {lb : Nat} {l : List Nat} (h : PtrsAt w lb l) {i x : Nat} (hi : l[i]? = some x) : w.cell? ⟨lb, i, none⟩ = some (.pointer (some ⟨x, 0, none⟩)) := by
  have hl := (List.getElem?_eq_some_iff.1 hi).1
  rw [h.cell hl]
  rw [(List.getElem?_eq_some_iff.1 hi).2]
theorem POwn.keep {S : Nat → Prop} {w w' : World} {lb : Nat} {l : List Nat} (h : POwn w lb l) (k : Keeps S w w') (hS : ¬ S lb) : POwn w' lb l := by
  obtain ⟨more, h⟩ := h
  exact ⟨more, h.keep k hS⟩
theorem POwn.frozen {w : World} {lb : Nat} {l : List Nat} (h : POwn w lb l) (i : Nat) : w.frozen? ⟨lb, i, none⟩ = false := by
  obtain ⟨more, h⟩ := h
  exact h.frozen i
theorem POwn.set {w : World} {lb : Nat} {l : List Nat} (h : POwn w lb l) (i : Nat) (hi : i < l.length) (x : Nat) : POwn (w.setCell ⟨lb, i, none⟩ (.pointer (some ⟨x, 0, none⟩))) lb (l.set i x) := by
  obtain ⟨more, h⟩ := h
  refine ⟨more, (h.set i _).to ?_⟩
  rw [List.set_append_left _ _ (by simpa using hi)]
  simp [Go.Proofs.YtjbbapodcngnaaaDoor.ptrs, List.map_set]

/-- What newHeader leaves: the same block, turned round, and the map. -/
def NhPost (lb cap : Nat) (fs : List Fd) (w : World) (e : Ending) (w' : World) : Prop :=
  ∃ m, e = .returned (.agg #[.slice (some ⟨lb, 0, none⟩) fs.length cap, .map m]) ∧ POwn w' lb (fs.reverse.map (·.blk)) ∧ HMap w' w.heap.size m fs.reverse ∧ Keeps (In [lb]) w w'

theorem wrap_small (n : Nat) (h : n ≤ 1000000000000) : IntKind.i64.wrap (n : Int) = (n : Int) := by rw [IntKind.wrap_i64]; omega
theorem swap_list (a m c : List Nat) (x y : Nat) : ((a ++ [x] ++ m ++ y :: c).set a.length y).set (a.length + 1 + m.length) x = a ++ (y :: m ++ [x]) ++ c := by
  rw [List.append_assoc, List.append_assoc, List.set_append_right _ _ (Nat.le_refl _), Nat.sub_self]
  simp only [List.singleton_append, List.set_cons_zero]
  rw [List.set_append_right _ _ (by omega), show a.length + 1 + m.length - a.length = m.length + 1 by omega]
  simp only [List.set_cons_succ]
  rw [List.set_append_right _ _ (Nat.le_refl _), Nat.sub_self]
  simp

set_option maxRecDepth 100000 in
set_option maxHeartbeats 2000000 in
theorem newHeader_any (lb cap lo hi : Nat) (fs : List Fd) (len : Nat) (hlen : len = fs.length) (w : World) (hp : POwn w lb (fs.map (·.blk))) (hf : Fds w lo hi fs) (hhi : hi ≤ w.heap.size) (hn : fs.length ≤ 1000000) :
    Calls Tryd.prog 46 #[.slice (some ⟨lb, 0, none⟩) len cap] w (NhPost lb cap fs w) := by
  have HP := Lib.hid hp
  have HF := Lib.hid hf
  have HL := Lib.hid hlen
  have hlen2 : len ≤ 1000000 := by omega
  have hlbw := hp.ptrs.lt
  clear hp hf hlen
  go_enter Tryd.func46, Tryd.ntmps46
  go_wp2
  go_loopg [3] (len / 2) (fun n s3 wr => ∃ a m c : List Nat, s3 = .int .i64 ((a.length : Int) - 1) ∧ n = a.length ∧ c.length = a.length ∧ fs.map (·.blk) = a ++ m ++ c ∧ POwn wr lb (a ++ m.reverse ++ c) ∧ Keeps (Up w.heap.size [lb]) w wr ∧
    Blk wr w.heap.size [.slice none 0 0, .map none] 45)
  case atStart =>
    have h1 := HL.out
    generalize hl : fs.map (·.blk) = l at *
    have h2 : l.length = len := by rw [← hl]; simp [h1]
    have hsplit : l = l.take (len / 2) ++ (l.drop (len / 2)).take (len - 2 * (len / 2)) ++ l.drop (len - len / 2) := by
      rw [List.append_assoc]
      conv => lhs; rw [← List.take_append_drop (len / 2) l]
      congr 1
      conv => lhs; rw [← List.take_append_drop (len - 2 * (len / 2)) (l.drop (len / 2))]
      rw [List.drop_drop]
      congr 2
      omega
    have hmid : ((l.drop (len / 2)).take (len - 2 * (len / 2))).reverse = (l.drop (len / 2)).take (len - 2 * (len / 2)) := by
      generalize hq : (l.drop (len / 2)).take (len - 2 * (len / 2)) = q
      have : q.length ≤ 1 := by rw [← hq]; simp; omega
      match q, this with
      | [], _ => rfl
      | [x], _ => rfl
    refine ⟨l.take (len / 2), (l.drop (len / 2)).take (len - 2 * (len / 2)), l.drop (len - len / 2), ?_, ?_, ?_, ?_, ?_, ((Keeps.refl _ w).alloc _), Blk.new _ _ _⟩
    · rw [List.length_take, h2]; congr 1; omega
    · rw [List.length_take, h2]; omega
    · rw [List.length_take, List.length_drop, h2]; omega
    · exact hsplit
    · rw [hmid]
      rw [← hsplit]
      have := HP.out
      exact this.keep ((Keeps.refl No _).alloc _) (fun h => h)
  case round =>
    obtain ⟨a, m, c, rfl, hna, hca, hfl, hpo, K, hB⟩ := hrel
    have HPO := Lib.hid hpo
    have HFL := Lib.hid hfl
    have HNA := Lib.hid hna
    have HCA := Lib.hid hca
    have HB := Lib.hid hB
    have hll : len = a.length + m.length + c.length := by
      have := congrArg List.length hfl
      have := HL.out
      simp at *
      omega
    have HLL := Lib.hid hll
    clear hpo hfl hna hca hB hll
    rcases nil_or_snoc a with rfl | ⟨a', x, rfl⟩
    · have hc0 : c = [] := List.length_eq_zero_iff.1 HCA.out
      subst hc0
      have hpo := HPO.out
      have hm : fs.map (·.blk) = m := by have := HFL.out; simpa using this
      have hrev : m.reverse = fs.reverse.map (·.blk) := by rw [← hm, List.map_reverse]
      rw [List.nil_append, List.append_nil, hrev] at hpo
      have HPO' := Lib.hid hpo
      clear hm hrev hpo
      have hf := HF.out.keep_lb HP.out.ptrs.typed (K.mono (fun x _ h => by
        rcases h with h | h
        · simp at h; exact .inl h
        · exact .inr (.inr h))) hhi
      go_wp2_with (fail)
      refine (makeHeaderMap_any lb cap lo hi fs.reverse len (by rw [List.length_reverse]; exact HL.out) wr HPO'.out.ptrs (fun f h => hf f (List.mem_reverse.1 h)) (by have := K.size; omega) (by simpa using hn)).mono ?_
      rintro e w2 ⟨mv, rfl, hm2, k2⟩
      have hB2 := HB.out.keep_no k2
      have fz2 := hB2.frozen
      have c0 : w2.cell? ⟨w.heap.size, 0, none⟩ = some (.slice none 0 0) := hB2.cell 0
      have c1 : w2.cell? ⟨w.heap.size, 1, none⟩ = some (.map none) := hB2.cell 1
      have HM2 := Lib.hid hm2
      have HB2 := Lib.hid hB2
      clear hm2 hB2
      go_wp2_with (fail)
      refine bodyPost_ret (results_cell_row rfl _ _ w.heap.size 45 #[.slice (some ⟨lb, 0, none⟩) len cap, .map mv] (0, 0) _ rfl ((HB2.out.set 0 (.slice (some ⟨lb, 0, none⟩) len cap)).set 1 (.map mv)) Tryd.underlying45 rfl (by kernel_rfl)) rfl ?_
      have kk : Keeps (In [w.heap.size]) w2 ((w2.setCell ⟨w.heap.size, 0, none⟩ (.slice (some ⟨lb, 0, none⟩) len cap)).setCell ⟨w.heap.size, 1, none⟩ (.map mv)) := ((Keeps.refl _ w2).setCell (.inl (by simp [In])) _).setCell (.inl (by simp [In])) _
      refine ⟨mv, by rw [HL.out], (HPO'.out.keep k2 (fun h => h)).keep kk (fun h => by simp [In] at h; omega), ?_, ?_⟩
      · rcases HM2.out with ⟨h1, h2⟩ | ⟨mb, gs, h1, h2, h3, h4⟩
        · exact .inl ⟨h1, h2⟩
        · have hws := K.size
          have hlt := HB.out.lt
          refine .inr ⟨mb, gs, h1, by omega, h3.keep kk (fun h => by simp [In] at h; omega), ?_⟩
          have h5 := h4.keep kk (fun x hx b hb h => by
            have := ((h4.own x hx).lt b hb).1
            simp [In] at h
            omega)
          exact ⟨h5.keys, h5.apart, fun x hx => PS.mono (h5.own x hx) hws, h5.some_, h5.of, h5.all⟩
      · have hws := K.size
        refine (((K.trans' (k2.of_no)).trans' (kk.mono (fun x _ h => .inr (by simp [In] at h; omega)))).mono (fun x hx h => ?_))
        rcases h with h | h
        · exact h
        · omega
    · obtain ⟨y, c', rfl⟩ : ∃ y c', c = y :: c' := by
        cases c with
        | nil => have := HCA.out; simp at this
        | cons y c' => exact ⟨y, c', rfl⟩
      have e1 : (((a' ++ [x]).length : Nat) : Int) - 1 = (a'.length : Int) := by simp
      rw [e1]
      have hx := HPO.out.ptrs.cell_of (i := a'.length) (x := x) (by simp)
      have hy := HPO.out.ptrs.cell_of (i := a'.length + 1 + m.length) (x := y) (by
        rw [List.getElem?_append_right (by simp; omega)]
        simp only [List.length_append, List.length_cons, List.length_nil, List.length_reverse, Nat.zero_add, Nat.sub_self, List.getElem?_cons_zero])
      have fz := HPO.out.frozen
      have hlen' : len = a'.length + 1 + m.length + 1 + c'.length := by have := HLL.out; simp at this; omega
      have hset : ∀ w', POwn w' lb (a' ++ [x] ++ m.reverse ++ y :: c') → POwn ((w'.setCell ⟨lb, a'.length, none⟩ (.pointer (some ⟨y, 0, none⟩))).setCell ⟨lb, a'.length + 1 + m.length, none⟩ (.pointer (some ⟨x, 0, none⟩))) lb (a' ++ (y :: m.reverse ++ [x]) ++ c') := fun w' h => by
        have := (h.set a'.length (by simp) y).set (a'.length + 1 + m.length) (by simp; omega) x
        rw [show a'.length + 1 + m.length = a'.length + 1 + m.reverse.length by simp] at this ⊢
        rwa [swap_list] at this
      have HSET := Lib.hid hset
      clear hset
      generalize hop : a'.length + 1 + m.length = op at *
      have hcc : c'.length = a'.length := by have := HCA.out; simp at this; omega
      have h5 : (len : Int) - 1 - (a'.length : Int) = (op : Int) := by omega
      have h5' : IntKind.i64.wrap ((len : Int) - 1 - (a'.length : Int)) = (op : Int) := by rw [h5]; exact wrap_small op (by omega)
      have h6 : (op : Int) < (len : Int) := by omega
      have h7 : (a'.length : Int) < (len : Int) := by omega
      have h8 : (0 : Int) ≤ (a'.length : Int) := by omega
      have h9 : (0 : Int) ≤ (op : Int) := by omega
      have h10 : op ≠ a'.length := by omega
      have h11 : a'.length ≤ 1000000 := by omega
      clear hlen' hcc
      generalize hii : a'.length = ii at *
      go_wp2
      go_region
      go_wp2
      go_roundg (gk - 1)
      case measure => have := HNA.out; simp at this; omega
      case rel =>
        have hna := HNA.out
        have hca := HCA.out
        simp at hna hca
        refine ⟨a', x :: m ++ [y], c', by rw [hii], by omega, by omega, ?_, ?_, ?_, ?_⟩
        · rw [HFL.out]; simp
        · have := (HSET.out _ HPO.out).keep ((Keeps.refl No _).drew) (fun h => h)
          simpa using this
        · exact ((K.setCell (.inl (.inl (by simp))) _).setCell (.inl (.inl (by simp))) _).drew
        · refine ((HB.out.set_other ?_ _).set_other ?_ _).keep ((Keeps.refl No _).drew) (fun h => h)
          · simp; omega
          · simp; omega
end Go.Proofs.YtjbbapodcngnaaaDoor
