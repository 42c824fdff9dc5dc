/- newHeaderField, errors.New, slices of pointers that are appended to. -/
import Derived.Test.YtjbbapodcngnaaaDoorMapD
namespace Go.Proofs.YtjbbapodcngnaaaDoor
open Go.RowKit Hdr

/-- What newHeaderField leaves. -/
def NfPost (k v : List UInt8) (rv : Value) (w : World) (e : Ending) (w' : World) : Prop :=
  ∃ fb : Nat, e = .returned (.pointer (some ⟨fb, 0, none⟩)) ∧ w.heap.size ≤ fb ∧ fb < w'.heap.size ∧ Blk w' fb [rv, str (canon k), str v] 70 ∧ Keeps No w w'

set_option maxRecDepth 100000 in
set_option maxHeartbeats 1000000 in
theorem newHeaderField_any (k v : List UInt8) (rv : Value) (hrv : ∃ a n c, rv = .slice a n c) (w : World) (hlen : k.length ≤ 1000000000) :
    Calls Tryd.prog 52 #[str k, str v, rv] w (NfPost k v rv w) := by
  obtain ⟨a, n, c, rfl⟩ := hrv
  go_enter Tryd.func52, Tryd.ntmps52
  go_wp2_with (fail)
  refine (canonicalKey_any k w hlen).mono ?_
  rintro e w1 ⟨rfl, K⟩
  go_wp2
  go_ret
  exact ⟨w1.heap.size, rfl, K.size, by simp, Blk.new w1 _ _, K.alloc _⟩

/-- What errors.New leaves: an error that is not nil. -/
def EnPost (w : World) (e : Ending) (w' : World) : Prop := ∃ eb : Nat, e = .returned (.iface 109 (.pointer (some ⟨eb, 0, none⟩))) ∧ Keeps No w w'

set_option maxRecDepth 100000 in
theorem errorsNew_any (l : ByteArray) (w : World) :
    Calls Tryd.prog 38 #[.string l] w (EnPost w) := by
  go_enter Tryd.func38, Tryd.ntmps38
  go_wp2
  go_ret
  exact ⟨w.heap.size, rfl, (Keeps.refl _ _).alloc _⟩

/-- A slice of pointers of ours, with its room. -/
def PO (w : World) (base g cap : Nat) (l : List Nat) : Prop :=
  base ≤ g ∧ l.length ≤ cap ∧ cap ≤ maxLen ∧ ∃ cur, Blk w g cur 67 ∧ cur.length = cap ∧ cur.take l.length = ptrs l
theorem PO.own {w : World} {base g cap : Nat} {l : List Nat} (h : PO w base g cap l) : POwn w g l := by
  obtain ⟨_, _, _, cur, hb, _, ht⟩ := h
  exact ⟨cur.drop l.length, hb.to (by rw [← ht, List.take_append_drop])⟩
theorem PO.keep {S : Nat → Prop} {w w' : World} {base g cap : Nat} {l : List Nat} (h : PO w base g cap l) (k : Keeps S w w') (hS : ¬ S g) : PO w' base g cap l := by
  obtain ⟨h1, h2, h3, cur, hb, h4, h5⟩ := h
  exact ⟨h1, h2, h3, cur, hb.keep k hS, h4, h5⟩
theorem PO.row {w : World} {base g cap : Nat} {l : List Nat} (h : PO w base g cap l) : w.ownsRow base 67 1 (.slice (some ⟨g, 0, none⟩) l.length cap) l.length (ptrs l) := by
  obtain ⟨h1, h2, h3, cur, hb, h4, h5⟩ := h
  exact ⟨by simp, .inr ⟨g, cap, cur.toArray, rfl, h1, hb, h2, h3, by simpa using h4, by simpa using h5⟩⟩
theorem PO.of_row {w : World} {base : Nat} {v : Value} {n : Nat} {l : List Nat} (h : w.ownsRow base 67 1 v n (ptrs l)) (hv : v ≠ .slice none 0 0) : ∃ g cap, v = .slice (some ⟨g, 0, none⟩) n cap ∧ n = l.length ∧ PO w base g cap l := by
  obtain ⟨h1, h2⟩ := h
  have hn : n = l.length := by simpa using h1.symm
  rcases h2 with ⟨rfl, _⟩ | ⟨g, cap, cur, rfl, hb, hg, hc, hm, hs, ht⟩
  · exact absurd rfl hv
  · exact ⟨g, cap, rfl, hn, hb, by omega, hm, cur.toList, hg, by simpa using hs, by rw [← hn]; simpa using ht⟩
theorem PO.lt {w : World} {base g cap : Nat} {l : List Nat} (h : PO w base g cap l) : g < w.heap.size := by
  obtain ⟨_, _, _, cur, hb, _, _⟩ := h
  exact hb.lt

/-- append(s, x): one pointer, laid into a block of its own first. -/
theorem wpList_append_p {w : World} {ops : Array Oper} {rest : List Oper} {o : Oper} {a : Act} {Q : Exit → Act → World → Prop} (hgd : o.guard = none) (s x : Operand)
    (ho : o.op = .call { callee := .builtin .append, args := #[s, x], argTypes := #[42, 42] })
    (base g cap n : Nat) (l : List Nat) (hs : a.eval s = .slice (some ⟨g, 0, none⟩) n cap) (hn : n = l.length) (hown : PO w base g cap l)
    (ad : Addr) (m c : Nat) (new : List Nat) (hx : a.eval x = .slice (some ad) m c) (hm : m = new.length) (hnew : ∀ j u, (ptrs new)[j]? = some u → w.cell? (ad.add j) = some u)
    (hb : n + m ≤ 1000000000000) (hbase : base ≤ w.heap.size)
    (h : ∀ g' cap' W, PO W base g' cap' (l ++ new) → Keeps (In [g]) w W → (g' = g ∨ w.heap.size ≤ g') → wpList Tryd.prog ops Q rest (a.put o.dst (.slice (some ⟨g', 0, none⟩) (n + m) cap')) W) : wpList Tryd.prog ops Q (o :: rest) a w := by
  subst hn; subst hm
  obtain ⟨i, hi, hz0, hz1, hz2⟩ := info_parts info_hf
  refine wpList_append_own_at (P := Tryd.prog) w hgd s x 42 ho base 67 i (.pointer none) 1 8 Tryd.underlying42 hi hz0 hz1 hz2 rfl (by decide) _ l.length (ptrs l) hs hown.row ad new.length c (ptrs new) hx (by simp) hnew (ptrs_one new) (by unfold maxLen; omega) (by omega) hbase ?_
  intro v' W hrow hgr hnil hat
  have hv : v' ≠ .slice none 0 0 := fun e => by have := (hnil.1 e).1; simp at this
  rw [← ptrs_append] at hrow
  obtain ⟨g', cap', rfl, hl, ho⟩ := PO.of_row hrow hv
  refine h g' cap' W ho ?_ ?_
  · exact (Keeps.refl (In [g]) w).grown hgr (fun k hk => .inl (by simp [Value.ownBlock] at hk; simp [In, hk]))
  · simp only [Value.ownBlock, Option.some.injEq] at hat
    omega

/-- make([]*headerField, 0, n). -/
theorem wpList_make_p {w : World} {ops : Array Oper} {rest : List Oper} {o : Oper} {a : Act} {Q : Exit → Act → World → Prop} (hgd : o.guard = none) (l c : Operand) (hop : o.op = Op.makeSlice 42 l c)
    (base n : Nat) (C : Int) (hl : a.eval l = .int .i64 0) (hc : a.eval c = .int .i64 C) (hC : C = (n : Int)) (hn : n ≤ 1000000) (hbase : base ≤ w.heap.size)
    (h : ∀ W, PO W base w.heap.size n [] → Keeps No w W → wpList Tryd.prog ops Q rest (a.put o.dst (.slice (some ⟨w.heap.size, 0, none⟩) 0 n)) W) : wpList Tryd.prog ops Q (o :: rest) a w := by
  obtain ⟨i, hi, hz0, hz1, hz2⟩ := info_parts info_hf
  refine wpList_make_own (P := Tryd.prog) w hgd l c 42 hop base 67 i (.pointer none) 1 Tryd.underlying42 hi hz0 hz1 .i64 .i64 C n hl hc hC (by rw [hz2]; omega) (by unfold maxLen; omega) hbase ?_
  intro W hrow hgr
  obtain ⟨g', cap', he, -, ho⟩ := PO.of_row (l := []) hrow (by simp)
  simp only [Value.slice.injEq, Option.some.injEq, Addr.mk.injEq, and_true, true_and] at he
  obtain ⟨rfl, rfl⟩ := he
  exact h W ho ((Keeps.refl No w).grown hgr (fun k hk => by cases hk))

/-- A header out of its block. -/
theorem load_hdr (w : World) (g : Nat) (x y : Value) (h : Blk w g [x, y] 45) : (loadVar 45 ⟨g, 0, none⟩).run Tryd.prog w = .ok (.agg #[x, y]) w :=
  run_loadVar_row w g 45 45 #[x, y] (0, 0) _ h Tryd.underlying45 rfl (by kernel_rfl)

/-- The results of a function with a struct in a cell and a temporary. -/
theorem results_row_tmp {fn : Func} {p u : Tmp} {ty : TypeId} (h : fn.results = #[.cell p ty, .tmp u]) (tmps : Array Value) {P : Program} (w : World) (g : Nat) (v : Value) (hp : tmps.getD p undef = .pointer (some ⟨g, 0, none⟩)) (hl : (loadVar ty ⟨g, 0, none⟩).run P w = .ok v w) :
    (results fn tmps).run P w = .ok (.tuple #[v, tmps.getD u undef]) w := by
  rw [results_cell_tmp h tmps P w, hp]
  simp [asAddr, hl, Result.andThen]
end Go.Proofs.YtjbbapodcngnaaaDoor
