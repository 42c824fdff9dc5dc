/- Bytes of a call's own: a slice that is made, appended to, and read. Nothing of the program is named but the number of the type of bytes. -/
import Derived.Test.YtjbbapodcngnaaaDoorBufG
import Derived.Laws.AppendOwnNone
namespace Go.Proofs.YtjbbapodcngnaaaDoor
open Go.RowKit

theorem info_u8 : (Tryd.prog.info? 5).map (fun i => (i.zero, i.size, i.bytes)) = some (some (.int .u8 0), 1, 1) := by kernel_rfl

/-- Block g, from base on, holds these bytes at its begin: a slice of ours with this capacity. -/
def OwnS (w : World) (base g cap : Nat) (l : List UInt8) : Prop :=
  base ≤ g ∧ l.length ≤ cap ∧ cap ≤ maxLen ∧ ∃ cur, Blk w g cur 5 ∧ cur.length = cap ∧ cur.take l.length = u8s l

theorem OwnS.bytes {w : World} {base g cap : Nat} {l : List UInt8} (h : OwnS w base g cap l) : BytesAt w g 0 l := by
  obtain ⟨_, _, _, cur, hb, _, ht⟩ := h
  exact BytesAt.of_blk hb (by rw [List.drop_zero]; exact ht)
theorem OwnS.keep {S : Nat → Prop} {w w' : World} {base g cap : Nat} {l : List UInt8} (h : OwnS w base g cap l) (k : Keeps S w w') (hS : ¬ S g) : OwnS w' base g cap l := by
  obtain ⟨h1, h2, h3, cur, hb, h4, h5⟩ := h
  exact ⟨h1, h2, h3, cur, hb.keep k hS, h4, h5⟩
theorem OwnS.drewN {w : World} {base g cap : Nat} {l : List UInt8} (h : OwnS w base g cap l) (n : Nat) : OwnS (w.drewN n) base g cap l := h.keep ((Keeps.refl No w).drewN n) (fun h => h)
theorem OwnS.row {w : World} {base g cap : Nat} {l : List UInt8} (h : OwnS w base g cap l) : w.ownsRow base 5 1 (.slice (some ⟨g, 0, none⟩) l.length cap) l.length (u8s l) := by
  obtain ⟨h1, h2, h3, cur, hb, h4, h5⟩ := h
  exact ⟨by simp, .inr ⟨g, cap, cur.toArray, rfl, h1, hb, h2, h3, by simpa using h4, by simpa using h5⟩⟩
theorem OwnS.of_row {w : World} {base : Nat} {v : Value} {n : Nat} {l : List UInt8} (h : w.ownsRow base 5 1 v n (u8s l)) (hv : v ≠ .slice none 0 0) : ∃ g cap, v = .slice (some ⟨g, 0, none⟩) n cap ∧ n = l.length ∧ OwnS w base g cap l := by
  obtain ⟨h1, h2⟩ := h
  have hn : n = l.length := by simpa using h1.symm
  rcases h2 with ⟨rfl, _⟩ | ⟨g, cap, cur, rfl, hb, hg, hc, hm, hs, ht⟩
  · exact absurd rfl hv
  · exact ⟨g, cap, rfl, hn, hb, by omega, hm, cur.toList, hg, by simpa using hs, by rw [← hn]; simpa using ht⟩
theorem OwnS.lt {w : World} {base g cap : Nat} {l : List UInt8} (h : OwnS w base g cap l) : g < w.heap.size := by
  obtain ⟨_, _, _, cur, hb, _, _⟩ := h
  exact hb.lt
theorem OwnS.ge {w : World} {base g cap : Nat} {l : List UInt8} (h : OwnS w base g cap l) : base ≤ g := h.1
theorem OwnS.le {w : World} {base g cap : Nat} {l : List UInt8} (h : OwnS w base g cap l) : l.length ≤ cap := h.2.1

/-- append(s, x...): bytes. -/
theorem wpList_append_b {w : World} {ops : Array Oper} {rest : List Oper} {o : Oper} {a : Act} {Q : Exit → Act → World → Prop} (hgd : o.guard = none) (s x : Operand)
    (ho : o.op = .call { callee := .builtin .append, args := #[s, x], argTypes := #[41, 41] })
    (base g cap n : Nat) (l : List UInt8) (hs : a.eval s = .slice (some ⟨g, 0, none⟩) n cap) (hn : n = l.length) (hown : OwnS w base g cap l)
    (ad : Addr) (m c : Nat) (new : List UInt8) (hx : a.eval x = .slice (some ad) m c) (hm : m = new.length) (hnew : ∀ j u, (u8s new)[j]? = some u → w.cell? (ad.add j) = some u)
    (hb : n + m ≤ 70368744177664) (hbase : base ≤ w.heap.size)
    (h : ∀ g' cap' W, OwnS W base g' cap' (l ++ new) → Keeps (In [g]) w W → wpList Tryd.prog ops Q rest (a.put o.dst (.slice (some ⟨g', 0, none⟩) (n + m) cap')) W) : wpList Tryd.prog ops Q (o :: rest) a w := by
  subst hn; subst hm
  obtain ⟨i, hi, hz0, hz1, hz2⟩ := info_parts info_u8
  refine wpList_append_own (P := Tryd.prog) w hgd s x 41 ho base 5 i (.int .u8 0) 1 1 Tryd.underlying41 hi hz0 hz1 hz2 rfl (by decide) _ l.length (u8s l) hs hown.row ad new.length c (u8s new) hx (by simp) hnew (u8s_one new) (by unfold maxLen; omega) (by omega) hbase ?_
  intro v' W hrow hgr hnil
  have hv : v' ≠ .slice none 0 0 := fun e => by have := (hnil.1 e).1; simp at this
  rw [← u8s_append] at hrow
  obtain ⟨g', cap', rfl, hl, ho⟩ := OwnS.of_row hrow hv
  refine h g' cap' W ho ?_
  exact (Keeps.refl (In [g]) w).grown hgr (fun k hk => .inl (by simp [Value.ownBlock] at hk; simp [In, hk]))

theorem wpList_append_b_none {w : World} {ops : Array Oper} {rest : List Oper} {o : Oper} {a : Act} {Q : Exit → Act → World → Prop} (hgd : o.guard = none) (s x : Operand)
    (ho : o.op = .call { callee := .builtin .append, args := #[s, x], argTypes := #[41, 41] })
    (base g cap n : Nat) (l : List UInt8) (hs : a.eval s = .slice (some ⟨g, 0, none⟩) n cap) (hn : n = l.length) (hown : OwnS w base g cap l) (hx : a.eval x = .slice none 0 0)
    (h : wpList Tryd.prog ops Q rest (a.put o.dst (.slice (some ⟨g, 0, none⟩) n cap)) w) : wpList Tryd.prog ops Q (o :: rest) a w := by
  subst hn
  obtain ⟨i, hi, hz0, hz1, hz2⟩ := info_parts info_u8
  exact wpList_append_own_none (P := Tryd.prog) hgd s x 41 ho base 5 i 1 Tryd.underlying41 hi _ l.length (u8s l) hs hown.row hx h

/-- make([]byte, 0, n). -/
theorem wpList_make_b {w : World} {ops : Array Oper} {rest : List Oper} {o : Oper} {a : Act} {Q : Exit → Act → World → Prop} (hgd : o.guard = none) (l c : Operand) (hop : o.op = Op.makeSlice 41 l c)
    (base n : Nat) (C : Int) (hl : a.eval l = .int .i64 0) (hc : a.eval c = .int .i64 C) (hC : C = (n : Int)) (hn : n ≤ 1000000) (hbase : base ≤ w.heap.size)
    (h : ∀ W, OwnS W base w.heap.size n [] → Keeps No w W → wpList Tryd.prog ops Q rest (a.put o.dst (.slice (some ⟨w.heap.size, 0, none⟩) 0 n)) W) : wpList Tryd.prog ops Q (o :: rest) a w := by
  obtain ⟨i, hi, hz0, hz1, hz2⟩ := info_parts info_u8
  refine wpList_make_own (P := Tryd.prog) w hgd l c 41 hop base 5 i (.int .u8 0) 1 Tryd.underlying41 hi hz0 hz1 .i64 .i64 C n hl hc hC (by rw [hz2]; omega) (by unfold maxLen; omega) hbase ?_
  intro W hrow hgr
  obtain ⟨g', cap', he, -, ho⟩ := OwnS.of_row (l := []) hrow (by simp)
  simp only [Value.slice.injEq, Option.some.injEq, Addr.mk.injEq, and_true, true_and] at he
  obtain ⟨rfl, rfl⟩ := he
  exact h W ho ((Keeps.refl No w).grown hgr (fun k hk => by cases hk))

end Go.Proofs.YtjbbapodcngnaaaDoor
