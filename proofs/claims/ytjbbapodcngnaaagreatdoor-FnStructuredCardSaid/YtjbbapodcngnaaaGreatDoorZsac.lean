/-   Bytes of a call's own: a slice that is made, appended to, and read. Nothing of the program is named but the number of the type of bytes.  strings.Builder: copyCheck, WriteByte, Write. Blanks, lines of a value; bytes of tokens, keys in canonical form; a header that bytes begin with, as the program reads it. No program in sight. trim. writeContinued, trimAroundNewlines. -/
import Derived.Test.YtjbbapodcngnaaaGreatDoorZsab
import Derived.Test.YtjbbapodcngnaaaGreatDoorZsaa
import Derived.LaidEql
import Derived.Laws.AppendOwnNone
import Derived.Test.YtjbbapodcngnaaaGreatDoorShelf
namespace Go.Proofs.YtjbbapodcngnaaaGreatDoor
open Go.RowKit

theorem indexByte_n (b o n cap : Nat) (l : List UInt8) (hn : l.length = n) (v : Int) (hv : Lib.indexByte l 10 = v) (w : World) (h : BytesAt w b o l) :
    Calls Tryz.prog 98 #[.slice (some ⟨b, o, none⟩) n cap, .int .u8 10] w fun e w' => e = .returned (.int .i64 v) ∧ w' = w := by
  subst hn; subst hv
  exact indexByte_any b o cap l 10 w h

end Go.Proofs.YtjbbapodcngnaaaGreatDoor
namespace Go.Proofs.YtjbbapodcngnaaaGreatDoor
open Go.RowKit Hdr

theorem info_es : (Tryz.prog.info? 203).map (·.comparable) = some true := by kernel_rfl
theorem info_es2 : (Tryz.prog.info? 205).map (·.size) = some 1 := by kernel_rfl

theorem eql_err {w : World} {ea fa : Addr} (h : ea ≠ fa) {ca cb : Array Value} {ta tb : TypeId} (ha : w.heap[ea.block]? = some (.cells ca ta (0, 0))) (hb : w.heap[fa.block]? = some (.cells cb tb (0, 0))) :
    (binOp .eql 93 (.iface 203 (.pointer (some ea))) (.iface 203 (.pointer (some fa)))).run Tryz.prog w = .ok (.bool false) w := by
  have h1 := info_es
  have h2 := info_es2
  cases hi : Tryz.prog.info? 203 with
  | none => rw [hi] at h1; simp at h1
  | some i =>
    cases hj : Tryz.prog.info? 205 with
    | none => rw [hj] at h2; simp at h2
    | some j =>
      rw [hi] at h1; rw [hj] at h2
      simp at h1 h2
      exact run_eql_iface_ptr_other w Tryz.underlying93 Tryz.underlying203 hi h1 hj (by rw [h2]; decide) h ha hb

theorem eql_err_same (w : World) (ea : Addr) : (binOp .eql 93 (.iface 203 (.pointer (some ea))) (.iface 203 (.pointer (some ea)))).run Tryz.prog w = .ok (.bool true) w := by
  have h1 := info_es
  have h2 := info_es2
  cases hi : Tryz.prog.info? 203 with
  | none => rw [hi] at h1; simp at h1
  | some i =>
    cases hj : Tryz.prog.info? 205 with
    | none => rw [hj] at h2; simp at h2
    | some j =>
      rw [hi] at h1
      simp at h1
      exact run_eql_iface_ptr_same w ea Tryz.underlying93 Tryz.underlying203 hi h1 hj

end Go.Proofs.YtjbbapodcngnaaaGreatDoor
namespace Go.Proofs.YtjbbapodcngnaaaGreatDoor
open Go.RowKit

theorem info_u8 : (Tryz.prog.info? 5).map (fun i => (i.zero, i.size, i.bytes)) = some (some (.int .u8 0), 1, 1) := by kernel_rfl

/-- Block g, from base on, holds these bytes at its begin: a slice of ours with this capacity. -/
def OwnS (w : World) (base g cap : Nat) (l : List UInt8) : Prop :=
  base ≤ g ∧ l.length ≤ cap ∧ cap ≤ maxLen ∧ ∃ cur, Blk w g cur 5 ∧ cur.length = cap ∧ cur.take l.length = u8s l

theorem OwnS.bytes {w : World} {base g cap : Nat} {l : List UInt8} (h : OwnS w base g cap l) : BytesAt w g 0 l := by
  obtain ⟨_, _, _, cur, hb, _, ht⟩ := h
  exact BytesAt.of_blk hb (by rw [List.drop_zero]; exact ht)
theorem OwnS.keep {S : Nat → Prop} {w w' : World} {base g cap : Nat} {l : List UInt8} (h : OwnS w base g cap l) (k : Keeps S w w') (hS : ¬ S g) : OwnS w' base g cap l := by
  obtain ⟨h1, h2, h3, cur, hb, h4, h5⟩ := h
  exact ⟨h1, h2, h3, cur, hb.keep k hS, h4, h5⟩
theorem OwnS.row {w : World} {base g cap : Nat} {l : List UInt8} (h : OwnS w base g cap l) : w.ownsRow base 5 1 (.slice (some ⟨g, 0, none⟩) l.length cap) l.length (u8s l) := by
  obtain ⟨h1, h2, h3, cur, hb, h4, h5⟩ := h
  exact ⟨by simp, .inr ⟨g, cap, cur.toArray, rfl, h1, hb, h2, h3, by simpa using h4, by simpa using h5⟩⟩
theorem OwnS.of_row {w : World} {base : Nat} {v : Value} {n : Nat} {l : List UInt8} (h : w.ownsRow base 5 1 v n (u8s l)) (hv : v ≠ .slice none 0 0) : ∃ g cap, v = .slice (some ⟨g, 0, none⟩) n cap ∧ n = l.length ∧ OwnS w base g cap l := by
  obtain ⟨h1, h2⟩ := h
  have hn : n = l.length := by simpa using h1.symm
  rcases h2 with ⟨rfl, _⟩ | ⟨g, cap, cur, rfl, hb, hg, hc, hm, hs, ht⟩
  · exact absurd rfl hv
  · exact ⟨g, cap, rfl, hn, hb, by omega, hm, cur.toList, hg, by simpa using hs, by rw [← hn]; simpa using ht⟩
theorem OwnS.lt {w : World} {base g cap : Nat} {l : List UInt8} (h : OwnS w base g cap l) : g < w.heap.size := by
  obtain ⟨_, _, _, cur, hb, _, _⟩ := h
  exact hb.lt
theorem OwnS.ge {w : World} {base g cap : Nat} {l : List UInt8} (h : OwnS w base g cap l) : base ≤ g := h.1
theorem OwnS.le {w : World} {base g cap : Nat} {l : List UInt8} (h : OwnS w base g cap l) : l.length ≤ cap := h.2.1

/-- append(s, x...): bytes. -/
theorem wpList_append_b {w : World} {ops : Array Oper} {rest : List Oper} {o : Oper} {a : Act} {Q : Exit → Act → World → Prop} (hgd : o.guard = none) (s x : Operand)
    (ho : o.op = .call { callee := .builtin .append, args := #[s, x], argTypes := #[85, 85] })
    (base g cap n : Nat) (l : List UInt8) (hs : a.eval s = .slice (some ⟨g, 0, none⟩) n cap) (hn : n = l.length) (hown : OwnS w base g cap l)
    (ad : Addr) (m c : Nat) (new : List UInt8) (hx : a.eval x = .slice (some ad) m c) (hm : m = new.length) (hnew : ∀ j u, (u8s new)[j]? = some u → w.cell? (ad.add j) = some u)
    (hb : n + m ≤ 70368744177664) (hbase : base ≤ w.heap.size)
    (h : ∀ g' cap' W, OwnS W base g' cap' (l ++ new) → Keeps (In [g]) w W → wpList Tryz.prog ops Q rest (a.put o.dst (.slice (some ⟨g', 0, none⟩) (n + m) cap')) W) : wpList Tryz.prog ops Q (o :: rest) a w := by
  subst hn; subst hm
  obtain ⟨i, hi, hz0, hz1, hz2⟩ := info_parts info_u8
  refine wpList_append_own (P := Tryz.prog) w hgd s x 85 ho base 5 i (.int .u8 0) 1 1 Tryz.underlying85 hi hz0 hz1 hz2 rfl (by decide) _ l.length (u8s l) hs hown.row ad new.length c (u8s new) hx (by simp) hnew (u8s_one new) (by unfold maxLen; omega) (by omega) hbase ?_
  intro v' W hrow hgr hnil
  have hv : v' ≠ .slice none 0 0 := fun e => by have := (hnil.1 e).1; simp at this
  rw [← u8s_append] at hrow
  obtain ⟨g', cap', rfl, hl, ho⟩ := OwnS.of_row hrow hv
  refine h g' cap' W ho ?_
  exact (Keeps.refl (In [g]) w).grown hgr (fun k hk => .inl (by simp [Value.ownBlock] at hk; simp [In, hk]))

theorem wpList_append_b_none {w : World} {ops : Array Oper} {rest : List Oper} {o : Oper} {a : Act} {Q : Exit → Act → World → Prop} (hgd : o.guard = none) (s x : Operand)
    (ho : o.op = .call { callee := .builtin .append, args := #[s, x], argTypes := #[85, 85] })
    (base g cap n : Nat) (l : List UInt8) (hs : a.eval s = .slice (some ⟨g, 0, none⟩) n cap) (hn : n = l.length) (hown : OwnS w base g cap l) (hx : a.eval x = .slice none 0 0)
    (h : wpList Tryz.prog ops Q rest (a.put o.dst (.slice (some ⟨g, 0, none⟩) n cap)) w) : wpList Tryz.prog ops Q (o :: rest) a w := by
  subst hn
  obtain ⟨i, hi, hz0, hz1, hz2⟩ := info_parts info_u8
  exact wpList_append_own_none (P := Tryz.prog) hgd s x 85 ho base 5 i 1 Tryz.underlying85 hi _ l.length (u8s l) hs hown.row hx h

/-- make([]byte, 0, n). -/
theorem wpList_make_b {w : World} {ops : Array Oper} {rest : List Oper} {o : Oper} {a : Act} {Q : Exit → Act → World → Prop} (hgd : o.guard = none) (l c : Operand) (hop : o.op = Op.makeSlice 85 l c)
    (base n : Nat) (C : Int) (hl : a.eval l = .int .i64 0) (hc : a.eval c = .int .i64 C) (hC : C = (n : Int)) (hn : n ≤ 1000000) (hbase : base ≤ w.heap.size)
    (h : ∀ W, OwnS W base w.heap.size n [] → Keeps No w W → wpList Tryz.prog ops Q rest (a.put o.dst (.slice (some ⟨w.heap.size, 0, none⟩) 0 n)) W) : wpList Tryz.prog ops Q (o :: rest) a w := by
  obtain ⟨i, hi, hz0, hz1, hz2⟩ := info_parts info_u8
  refine wpList_make_own (P := Tryz.prog) w hgd l c 85 hop base 5 i (.int .u8 0) 1 Tryz.underlying85 hi hz0 hz1 .i64 .i64 C n hl hc hC (by rw [hz2]; omega) (by unfold maxLen; omega) hbase ?_
  intro W hrow hgr
  obtain ⟨g', cap', he, -, ho⟩ := OwnS.of_row (l := []) hrow (by simp)
  simp only [Value.slice.injEq, Option.some.injEq, Addr.mk.injEq, and_true, true_and] at he
  obtain ⟨rfl, rfl⟩ := he
  exact h W ho ((Keeps.refl No w).grown hgr (fun k hk => by cases hk))

end Go.Proofs.YtjbbapodcngnaaaGreatDoor
namespace Go.Proofs.YtjbbapodcngnaaaGreatDoor
open Go.RowKit Hdr

/-- These blocks, and all from base on. -/
def Up (base : Nat) (l : List Nat) : Nat → Prop := fun k => k ∈ l ∨ base ≤ k

/-- What was made since counts for nothing. -/
theorem Keeps.down {base : Nat} {l : List Nat} {a b : World} (h : Keeps (Up base l) a b) (hb : a.heap.size ≤ base) : Keeps (In l) a b := h.mono (fun i hi h => by
  rcases h with h | h
  · exact h
  · omega)

end Go.Proofs.YtjbbapodcngnaaaGreatDoor
namespace Go.Proofs.YtjbbapodcngnaaaGreatDoor
open Go.RowKit

/-- A builder of ours at block b that holds these bytes. -/
abbrev Bd (B b : Nat) (l : List UInt8) (w : World) : Prop := Lib.IsBuilder 236 5 B b (u8s l) w

theorem info_builder : (Tryz.prog.info? 236).map (fun i => i.size) = some 2 := by kernel_rfl

set_option maxHeartbeats 1000000 in
set_option maxRecDepth 100000 in
theorem copyCheck_used (b : Nat) (w : World) (h0 : w.cell? ⟨b, 0, none⟩ = some (.pointer (some ⟨b, 0, none⟩))) :
    Calls Tryz.prog 182 #[.pointer (some ⟨b, 0, none⟩)] w fun e w' => e = .returned (.tuple #[]) ∧ w' = w := by
  obtain ⟨j, hj, _⟩ := Option.map_eq_some_iff.1 info_builder
  have hq := Lib.run_neq_ptr_same (P := Tryz.prog) w (⟨b, 0, none⟩ : Addr) Tryz.underlying234 hj
  go_enter Tryz.func182, Tryz.ntmps182
  go_wp2
  go_end0
  exact ⟨rfl, rfl⟩

set_option maxHeartbeats 1000000 in
set_option maxRecDepth 100000 in
theorem copyCheck_fresh (b : Nat) (w : World) (h0 : w.cell? ⟨b, 0, none⟩ = some (.pointer none)) (hsh : w.shape? b = some (236, 2)) (hfz : w.frozen? ⟨b, 0, none⟩ = false) :
    Calls Tryz.prog 182 #[.pointer (some ⟨b, 0, none⟩)] w fun e w' => e = .returned (.tuple #[]) ∧ w' = w.setCell ⟨b, 0, none⟩ (.pointer (some ⟨b, 0, none⟩)) := by
  obtain ⟨j, hj, hjs⟩ := Option.map_eq_some_iff.1 info_builder
  have hq := Lib.run_to_unsafe (P := Tryz.prog) w ⟨b, 0, none⟩ Tryz.underlying234 Tryz.underlying222 hj (by rw [hjs]; decide) hsh (Nat.zero_lt_succ 1)
  have hq2 := Lib.run_from_unsafe (P := Tryz.prog) w ⟨b, 0, none⟩ Tryz.underlying222 Tryz.underlying234 hj hsh (by kernel_rfl)
  have hq3 : (callFunc 204 #[.pointer (some ⟨b, 0, none⟩)]).run Tryz.prog w = .ok (.value (.pointer (some ⟨b, 0, none⟩))) w := by
    rw [run_callFunc_extern Tryz.func204 (by kernel_rfl) (by kernel_rfl) (by kernel_rfl) (e := Extern.AbiNoEscape.same) (by kernel_rfl), Lib.run_noEscape]
    rfl
  go_enter Tryz.func182, Tryz.ntmps182
  go_wp2
  go_end0
  exact ⟨rfl, rfl⟩

theorem copyCheck_any (B b : Nat) (bs : List Value) (w : World) (h : Lib.IsBuilder 236 5 B b bs w) :
    Calls Tryz.prog 182 #[.pointer (some ⟨b, 0, none⟩)] w fun e w' => e = .returned (.tuple #[]) ∧ (Lib.BuilderAt 236 5 B b (.pointer (some ⟨b, 0, none⟩)) bs w' ∧ Below B w w') := by
  rcases h with h | h
  · refine (copyCheck_fresh b w h.cell0 h.shape h.frozen0).mono ?_
    rintro e w' ⟨rfl, rfl⟩
    exact ⟨rfl, h.used _, (Below.refl B w).setCell (p := ⟨b, 0, none⟩) h.1 _⟩
  · refine (copyCheck_used b w h.cell0).mono ?_
    rintro e w' ⟨rfl, rfl⟩
    exact ⟨rfl, h, Below.refl B _⟩

set_option maxHeartbeats 2000000 in
set_option maxRecDepth 100000 in
theorem writeByte_any (B b : Nat) (l : List UInt8) (c : UInt8) (w : World) (h : Bd B b l w) (hlen : l.length ≤ 70368744177664) (hBw : B ≤ w.heap.size) :
    Calls Tryz.prog 149 #[.pointer (some ⟨b, 0, none⟩), .int .u8 c.toNat] w fun e w' => e = .returned .nilIface ∧ (Bd B b (l ++ [c]) w' ∧ Below B w w') := by
  obtain ⟨i0, hi, hz0, hz1, hz2⟩ := info_parts info_u8
  go_enter Tryz.func149, Tryz.ntmps149
  go_wp2_with (go_at_call 182; refine (copyCheck_any B b _ _ h).mono ?_)
  rintro e w1 ⟨rfl, h1, hb1⟩
  obtain ⟨hB, v, hbk, hown, hne⟩ := h1
  have c0 : w1.cell? ⟨b, 0, none⟩ = some (.pointer (some ⟨b, 0, none⟩)) := by rw [Lib.cell_of_heap hbk]; rfl
  have c1 : w1.cell? ⟨b, 1, none⟩ = some v := by rw [Lib.cell_of_heap hbk]; rfl
  go_wp2_with (at_builtin; refine wpList_append_own _ rfl _ _ 85 rfl B 5 i0 (.int .u8 0) 1 1 Tryz.underlying85 hi hz0 hz1 hz2 rfl (by decide) _ _ _ rfl (hown.alloc _) ⟨w1.heap.size, 0, none⟩ 1 1 [.int .u8 c.toNat] rfl rfl ?c1 ?c2 ?c3 ?c4 ?c5 ?_)
  case c1 =>
    intro j u hj
    match j, hj with
    | 0, hj => simp at hj; subst hj; simp [Addr.add]
  case c2 => intro u hu; simp at hu; subst hu; rfl
  case c3 => rw [u8s_length]; unfold maxLen; omega
  case c4 => rw [u8s_length]; omega
  case c5 => have := hb1.size; simp; omega
  intro v' w2 hown' hgrow _
  have hlt : b < w1.heap.size := by
    rcases Nat.lt_or_ge b w1.heap.size with h' | h'
    · exact h'
    · simp [Array.getElem?_eq_none h'] at hbk
  have hb2 : w2.heap[b]? = some (.cells #[.pointer (some ⟨b, 0, none⟩), v] 236 (0, 0)) := by
    rw [hgrow.block b (by simp; omega) (fun e => hne e.symm), Lib.alloc_old w1 _ b hlt]
    exact hbk
  have d0 : w2.cell? ⟨b, 0, none⟩ = some (.pointer (some ⟨b, 0, none⟩)) := by rw [Lib.cell_of_heap hb2]; rfl
  have d1 : w2.cell? ⟨b, 1, none⟩ = some v := by rw [Lib.cell_of_heap hb2]; rfl
  have f1 : w2.frozen? ⟨b, 1, none⟩ = false := Lib.frozen_of_heap hb2 1
  obtain ⟨g, n', cap, rfl⟩ : ∃ g n' cap, v' = .slice g n' cap := by
    rcases hown'.2 with ⟨hv, _⟩ | ⟨g, cap, cur, hv, _⟩
    · exact ⟨_, _, _, hv⟩
    · exact ⟨_, _, _, hv⟩
  go_wp2
  go_ret
  refine ⟨rfl, .inr ?_, ?_⟩
  · rw [show u8s (l ++ [c]) = u8s l ++ [.int .u8 c.toNat] from u8s_append l [c]]
    exact Lib.BuilderAt.put (T := 236) (e := 5) hB hb2 (bs' := u8s l ++ [.int .u8 c.toNat]) (by simpa using hown') (by decide)
  · exact ((hb1.alloc (by have := hb1.size; omega) _).grown hgrow (by have := hb1.size; simp; omega) (fun k hk => (hown.lt k hk).1)).setCell (p := ⟨b, 1, none⟩) hB _

set_option maxHeartbeats 2000000 in
set_option maxRecDepth 100000 in
theorem write_any (B b : Nat) (l : List UInt8) (ad : Addr) (cap : Nat) (new : List UInt8) (n : Nat) (hn : n = new.length) (w : World) (h : Bd B b l w) (hnew : ∀ W, Below B w W → ∀ j u, (u8s new)[j]? = some u → W.cell? (ad.add j) = some u)
    (hlen : l.length + new.length ≤ 70368744177664) (hBw : B ≤ w.heap.size) :
    Calls Tryz.prog 185 #[.pointer (some ⟨b, 0, none⟩), .slice (some ad) n cap] w fun e w' => (∃ v, e = .returned v) ∧ (Bd B b (l ++ new) w' ∧ Below B w w') := by
  obtain ⟨i0, hi, hz0, hz1, hz2⟩ := info_parts info_u8
  have HW := Lib.hid hnew
  have HN := Lib.hid hn
  clear hnew hn
  go_enter Tryz.func185, Tryz.ntmps185
  go_wp2_with (go_at_call 182; refine (copyCheck_any B b _ _ h).mono ?_)
  rintro e w1 ⟨rfl, h1, hb1⟩
  obtain ⟨hB, v, hbk, hown, hne⟩ := h1
  have c0 : w1.cell? ⟨b, 0, none⟩ = some (.pointer (some ⟨b, 0, none⟩)) := by rw [Lib.cell_of_heap hbk]; rfl
  have c1 : w1.cell? ⟨b, 1, none⟩ = some v := by rw [Lib.cell_of_heap hbk]; rfl
  go_wp2_with (at_builtin; refine wpList_append_own _ rfl _ _ 85 rfl B 5 i0 (.int .u8 0) 1 1 Tryz.underlying85 hi hz0 hz1 hz2 rfl (by decide) _ _ _ rfl hown ad n cap (u8s new) rfl ?c0 (HW.out _ hb1) (u8s_one new) ?c3 ?c4 ?c5 ?_)
  case c0 => rw [u8s_length, HN.out, Nat.mul_one]
  case c3 => rw [u8s_length, HN.out]; unfold maxLen; omega
  case c4 => rw [u8s_length, HN.out]; omega
  case c5 => have := hb1.size; omega
  intro v' w2 hown' hgrow _
  have hlt : b < w1.heap.size := by
    rcases Nat.lt_or_ge b w1.heap.size with h' | h'
    · exact h'
    · simp [Array.getElem?_eq_none h'] at hbk
  have hb2 : w2.heap[b]? = some (.cells #[.pointer (some ⟨b, 0, none⟩), v] 236 (0, 0)) := by
    rw [hgrow.block b hlt (fun e => hne e.symm)]
    exact hbk
  have d0 : w2.cell? ⟨b, 0, none⟩ = some (.pointer (some ⟨b, 0, none⟩)) := by rw [Lib.cell_of_heap hb2]; rfl
  have d1 : w2.cell? ⟨b, 1, none⟩ = some v := by rw [Lib.cell_of_heap hb2]; rfl
  have f1 : w2.frozen? ⟨b, 1, none⟩ = false := Lib.frozen_of_heap hb2 1
  obtain ⟨g, n', cap, rfl⟩ : ∃ g n' cap, v' = .slice g n' cap := by
    rcases hown'.2 with ⟨hv, _⟩ | ⟨g, cap, cur, hv, _⟩
    · exact ⟨_, _, _, hv⟩
    · exact ⟨_, _, _, hv⟩
  have HO := Lib.hid hown'
  clear hown'
  go_wp2
  go_ret2
  have ho := HO.out
  rw [HN.out, show l.length + new.length = (u8s (l ++ new)).length by simp, ← u8s_append] at ho
  refine ⟨⟨_, rfl⟩, .inr ?_, ?_⟩
  · exact Lib.BuilderAt.put (T := 236) (e := 5) hB hb2 (bs' := u8s (l ++ new)) ho (by decide)
  · exact (hb1.grown hgrow (by have := hb1.size; omega) (fun k hk => (hown.lt k hk).1)).setCell (p := ⟨b, 1, none⟩) hB _
end Go.Proofs.YtjbbapodcngnaaaGreatDoor
namespace Go.Proofs.YtjbbapodcngnaaaGreatDoor.Hdr

/-! ### Blanks at both ends -/
def trimL (l : List UInt8) : List UInt8 := l.dropWhile sp
def trimR (l : List UInt8) : List UInt8 := (l.reverse.dropWhile sp).reverse
def trim (l : List UInt8) : List UInt8 := trimR (trimL l)

theorem trimL_at {l : List UInt8} {i : Nat} (hi : i < l.length) (h : trimL (l.drop i) = trimL l) : (sp l[i] = true → trimL (l.drop (i + 1)) = trimL l) ∧ (sp l[i] = false → l.drop i = trimL l) := by
  unfold trimL at *
  rw [List.drop_eq_getElem_cons hi] at h
  constructor
  · intro hs
    rw [List.dropWhile_cons, if_pos hs] at h
    exact h
  · intro hs
    rw [List.dropWhile_cons, if_neg (by rw [hs]; decide)] at h
    rw [List.drop_eq_getElem_cons hi]
    exact h
theorem trimL_end {l : List UInt8} {i : Nat} (hi : l.length ≤ i) (h : trimL (l.drop i) = trimL l) : l.drop i = trimL l := by
  rw [← h, List.drop_eq_nil_of_le hi]
  rfl
theorem trimR_snoc (l : List UInt8) (x : UInt8) : trimR (l ++ [x]) = if sp x then trimR l else l ++ [x] := by
  unfold trimR
  rw [List.reverse_append, List.reverse_cons, List.reverse_nil, List.nil_append, List.singleton_append, List.dropWhile_cons]
  split
  · rfl
  · rw [List.reverse_cons, List.reverse_reverse]
/-- The end draws near. -/
theorem trimR_at {l : List UInt8} {i n : Nat} (hi : i < n) (hn : n ≤ l.length) (h : trimR ((l.take n).drop i) = trimR (l.drop i)) :
    (sp (l[n - 1]'(by omega)) = true → trimR ((l.take (n - 1)).drop i) = trimR (l.drop i)) ∧ (sp (l[n - 1]'(by omega)) = false → (l.take n).drop i = trimR (l.drop i)) := by
  have e : (l.take n).drop i = (l.take (n - 1)).drop i ++ [l[n - 1]'(by omega)] := by
    obtain ⟨m, rfl⟩ : ∃ m, n = m + 1 := ⟨n - 1, by omega⟩
    simp only [Nat.add_sub_cancel]
    rw [List.take_succ_eq_append_getElem (by omega), List.drop_append_of_le_length (by simp; omega)]
  rw [e, trimR_snoc] at h
  constructor
  · intro hs
    rw [if_pos hs] at h
    exact h
  · intro hs
    rw [if_neg (by rw [hs]; decide)] at h
    rw [e]
    exact h
theorem trimL_len (l : List UInt8) : (trimL l).length ≤ l.length := by
  unfold trimL
  exact List.Sublist.length_le (List.dropWhile_sublist _)
theorem trimR_len (l : List UInt8) : (trimR l).length ≤ l.length := by
  unfold trimR
  rw [List.length_reverse]
  exact Nat.le_trans (List.Sublist.length_le (List.dropWhile_sublist _)) (by simp)
theorem trim_len (l : List UInt8) : (trim l).length ≤ l.length := Nat.le_trans (trimR_len _) (trimL_len _)

/-! ### Lines of a value -/
/-- Without the return at its end, and without blanks at both ends. -/
def bare (l : List UInt8) : List UInt8 := trim (chomp l)
/-- A line joins what stands. -/
def join (a l : List UInt8) : List UInt8 := if bare l = [] then a else if a = [] then bare l else a ++ 32 :: bare l
/-- All lines of v join what stands. -/
def joins (a : List UInt8) (v : List UInt8) : List UInt8 :=
  match _h : behind v with
  | [] => join a v
  | _ :: r => joins (join a (upto v)) r
termination_by v.length
decreasing_by
  have := congrArg List.length (split v)
  rw [_h] at this
  simp at this
  omega
theorem joins_end {a v : List UInt8} (h : behind v = []) : joins a v = join a v := by
  rw [joins]; split
  · rfl
  · rename_i h2; rw [h] at h2; cases h2
theorem joins_nl {a v r : List UInt8} {x : UInt8} (h : behind v = x :: r) : joins a v = joins (join a (upto v)) r := by
  rw [joins]; split
  · rename_i h2; rw [h] at h2; cases h2
  · rename_i h2; rw [h] at h2; cases h2; rfl
theorem chomp_snoc (m : List UInt8) (x : UInt8) : chomp (m ++ [x]) = if x = 13 then m else m ++ [x] := by
  unfold chomp
  simp
theorem chomp_last (l : List UInt8) : (chomp l).length = if l.getLast? = some 13 then l.length - 1 else l.length := by
  unfold chomp
  split
  · simp
  · rfl
theorem join_nil {a l : List UInt8} (h : bare l = []) : join a l = a := by unfold join; rw [if_pos h]
theorem join_first {l : List UInt8} (h : bare l ≠ []) : join [] l = bare l := by unfold join; rw [if_neg h, if_pos rfl]
theorem join_more {a l : List UInt8} (h : bare l ≠ []) (ha : a ≠ []) : join a l = a ++ 32 :: bare l := by unfold join; rw [if_neg h, if_neg ha]
theorem chomp_take (l : List UInt8) : chomp l = l.take (chomp l).length := by
  rcases List.eq_nil_or_concat l with rfl | ⟨m, x, rfl⟩
  · rfl
  · rw [List.concat_eq_append, chomp_snoc]
    split
    · simp
    · rw [List.take_of_length_le (Nat.le_refl _)]
theorem chomp_len (l : List UInt8) : (chomp l).length ≤ l.length := by unfold chomp; split <;> simp
theorem bare_len (l : List UInt8) : (bare l).length ≤ l.length := Nat.le_trans (trim_len _) (chomp_len _)
theorem join_len (a l : List UInt8) : (join a l).length ≤ a.length + l.length + 1 := by
  have := bare_len l
  unfold join
  split
  · omega
  · split
    · omega
    · simp; omega

end Go.Proofs.YtjbbapodcngnaaaGreatDoor.Hdr

namespace Go.Proofs.YtjbbapodcngnaaaGreatDoor.Hdr

/-- Signs that a token may have beside letters and digits. -/
def signN (n : Nat) : Prop := n = 33 ∨ n = 35 ∨ n = 36 ∨ n = 37 ∨ n = 38 ∨ n = 39 ∨ n = 42 ∨ n = 43 ∨ n = 45 ∨ n = 46 ∨ n = 94 ∨ n = 95 ∨ n = 96 ∨ n = 124 ∨ n = 126
instance (n : Nat) : Decidable (signN n) := by unfold signN; infer_instance
def tokN (n : Nat) : Prop := signN n ∨ (48 ≤ n ∧ n ≤ 57) ∨ (97 ≤ n ∧ n ≤ 122) ∨ (65 ≤ n ∧ n ≤ 90)
instance (n : Nat) : Decidable (tokN n) := by unfold tokN; infer_instance
def tok (c : UInt8) : Bool := decide (tokN c.toNat)
def keyN (n : Nat) : Prop := 33 ≤ n ∧ n ≤ 126 ∧ n ≠ 58
instance (n : Nat) : Decidable (keyN n) := by unfold keyN; infer_instance
/-- A byte that may stand in a key. -/
def keyb (c : UInt8) : Bool := decide (keyN c.toNat)

/-- A byte, in the case that it stands in. -/
def cased (up : Bool) (c : UInt8) : UInt8 :=
  if up = true ∧ 97 ≤ c.toNat ∧ c.toNat ≤ 122 then c - 97 + 65
  else if up = false ∧ 65 ≤ c.toNat ∧ c.toNat ≤ 90 then c - 65 + 97
  else c
def canonGo : Bool → List UInt8 → List UInt8
  | _, [] => []
  | up, c :: l => cased up c :: canonGo (c == 45) l
def canon (l : List UInt8) : List UInt8 := if l.all tok then canonGo true l else l
theorem canonGo_len (up : Bool) (l : List UInt8) : (canonGo up l).length = l.length := by
  induction l generalizing up with
  | nil => rfl
  | cons c l ih => simp [canonGo, ih]
theorem canon_len (l : List UInt8) : (canon l).length = l.length := by
  unfold canon; split
  · exact canonGo_len _ _
  · rfl
end Go.Proofs.YtjbbapodcngnaaaGreatDoor.Hdr

namespace Go.Proofs.YtjbbapodcngnaaaGreatDoor.Hdr

structure PF where
  k : List UInt8
  v : List UInt8
  raw : List UInt8

theorem kv_nil : kv [] = ([], []) := by
  have h : line1 [] = ([], []) := rfl
  unfold kv
  rw [h]
  rfl
theorem kv_lt {c : List UInt8} (h : (kv c).1 ≠ []) : (kv c).2.length < c.length := by
  have hc : c ≠ [] := by
    rintro rfl
    rw [kv_nil] at h
    exact h rfl
  have h1 := line1_lt hc
  have h2 := conts_len (line1 c).2
  unfold kv
  split
  · exact h1
  · simp only []; omega

/-- The fields up to the empty line, and what stands behind them; none if the header is refused. -/
def rh (c : List UInt8) : Option (List PF × List UInt8) :=
  if _h : (kv c).1 = [] then some ([], (kv c).2) else
  match (kv c).1.dropWhile (· != 58) with
  | [] => none
  | _ :: b =>
    if (trim ((kv c).1.takeWhile (· != 58))).all keyb then
      (rh (kv c).2).map fun r => (if trim ((kv c).1.takeWhile (· != 58)) = [] then r.1 else ⟨canon (canon (trim ((kv c).1.takeWhile (· != 58)))), joins [] b, (kv c).1⟩ :: r.1, r.2)
    else none
termination_by c.length
decreasing_by exact kv_lt _h

theorem rh_end {c : List UInt8} (h : (kv c).1 = []) : rh c = some ([], (kv c).2) := by rw [rh, dif_pos h]
theorem rh_no {c : List UInt8} (h : (kv c).1 ≠ []) (h2 : (kv c).1.dropWhile (· != 58) = []) : rh c = none := by
  rw [rh, dif_neg h]
  split
  · rfl
  · rename_i h3; rw [h2] at h3; cases h3
theorem rh_bad {c b : List UInt8} {x : UInt8} (h : (kv c).1 ≠ []) (_h2 : (kv c).1.dropWhile (· != 58) = x :: b) (h3 : (trim ((kv c).1.takeWhile (· != 58))).all keyb = false) : rh c = none := by
  rw [rh, dif_neg h]
  split
  · rfl
  · rw [if_neg (by rw [h3]; decide)]
theorem rh_skip {c b : List UInt8} {x : UInt8} (h : (kv c).1 ≠ []) (h2 : (kv c).1.dropWhile (· != 58) = x :: b) (h4 : trim ((kv c).1.takeWhile (· != 58)) = []) : rh c = rh (kv c).2 := by
  rw [rh, dif_neg h]
  split
  · rename_i h3; rw [h2] at h3; cases h3
  · rw [if_pos (by rw [h4]; rfl)]
    rw [h4]
    simp
theorem rh_more {c b : List UInt8} {x : UInt8} (h : (kv c).1 ≠ []) (h2 : (kv c).1.dropWhile (· != 58) = x :: b) (h3 : (trim ((kv c).1.takeWhile (· != 58))).all keyb = true) (h4 : trim ((kv c).1.takeWhile (· != 58)) ≠ []) :
    rh c = (rh (kv c).2).map fun r => (⟨canon (canon (trim ((kv c).1.takeWhile (· != 58)))), joins [] b, (kv c).1⟩ :: r.1, r.2) := by
  rw [rh, dif_neg h]
  split
  · rename_i h3; rw [h2] at h3; cases h3
  · rename_i b' h5
    rw [h2] at h5
    injection h5 with _ h5
    subst h5
    rw [if_pos h3]
    congr 1
    funext r
    rw [if_neg h4]

/-- The whole. -/
def rhd (c : List UInt8) : Option (List PF × List UInt8) := if spHead c then none else rh c

theorem colon_split (l : List UInt8) : l = l.takeWhile (· != 58) ++ l.dropWhile (· != 58) := (List.takeWhile_append_dropWhile (p := (· != 58)) (l := l)).symm
theorem colon_no (l : List UInt8) : (58 : UInt8) ∉ l.takeWhile (· != 58) := by
  induction l with
  | nil => simp
  | cons x l ih =>
    rw [List.takeWhile_cons]
    split
    · rename_i h
      simp only [List.mem_cons, not_or]
      exact ⟨fun e => by subst e; simp at h, ih⟩
    · simp
theorem colon_head {l b : List UInt8} {x : UInt8} (h : l.dropWhile (· != 58) = x :: b) : x = 58 := by
  induction l with
  | nil => simp at h
  | cons y l ih =>
    rw [List.dropWhile_cons] at h
    split at h
    · exact ih h
    · rename_i hy
      simp only [List.cons.injEq] at h
      rw [← h.1]
      simpa using hy
end Go.Proofs.YtjbbapodcngnaaaGreatDoor.Hdr
namespace Go.Proofs.YtjbbapodcngnaaaGreatDoor
open Go.RowKit Hdr

/-- What trim leaves. -/
def TrimPost (b : Nat) (l : List UInt8) (w : World) (e : Ending) (w' : World) : Prop :=
  ∃ o cap : Nat, e = .returned (.slice (some ⟨b, o, none⟩) (trim l).length cap) ∧ (trim l).length ≤ cap ∧ BytesAt w b o (trim l) ∧ w' = w

set_option maxRecDepth 100000 in
set_option maxHeartbeats 1000000 in
theorem trim_any (b o cap : Nat) (l : List UInt8) (len : Nat) (hn : len = l.length) (w : World) (h : BytesAt w b o l) (hcap : l.length ≤ cap) (hlen : l.length ≤ 1000000000000) :
    Calls Tryz.prog 99 #[.slice (some ⟨b, o, none⟩) len cap] w (TrimPost b l w) := by
  have H := Lib.hid h
  have HN := Lib.hid hn
  have hlen2 : len ≤ 1000000000000 := by omega
  have hcap2 : len ≤ cap := by omega
  clear h hn
  go_enter Tryz.func99, Tryz.ntmps99
  go_upto_block 0 with (fail)
  go_cut [3] (fun s3 wx => ∃ i : Nat, s3 = .int .i64 i ∧ i ≤ len ∧ l.drop i = trimL l ∧ w = wx)
  case first =>
    go_wp2
    go_loopg [3] len (fun n s3 wr => ∃ i : Nat, s3 = .int .i64 i ∧ i + n = len ∧ trimL (l.drop i) = trimL l ∧ w = wr)
    case atStart => exact ⟨0, rfl, by omega, by rw [List.drop_zero], rfl⟩
    case round =>
      obtain ⟨i, rfl, hin, ht, rfl⟩ := hrel
      have HT := Lib.hid ht
      have HIN := Lib.hid hin
      have hil0 : i ≤ len := by omega
      clear ht hin
      by_cases hi : i < len
      · have hil : i < l.length := by have := HN.out; omega
        have hx : w.cell? ⟨b, o + i, none⟩ = some (byt l[i]) := H.out.cell hil
        have e1 : decide ((i : Int) < (len : Int)) = true := decide_eq_true (by omega)
        have hi2 : (i : Int) < (len : Int) := by omega
        unfold byt at hx
        generalize hc : l[i] = c at hx
        have HC := Lib.hid hc
        clear hc
        go_wp2_with (fail)
        refine (isSpace_any c _).mono ?_
        rintro e w1 ⟨rfl, rfl⟩
        cases hs : sp c with
        | true =>
          have HS := Lib.hid hs
          clear hs
          go_wp2
          go_roundg (gk - 1)
          case measure => have := HIN.out; omega
          case rel => exact ⟨i + 1, by simp, by have := HIN.out; omega, (trimL_at hil HT.out).1 (by rw [HC.out]; exact HS.out), rfl⟩
        | false =>
          have HS := Lib.hid hs
          clear hs
          go_wp2
          go_meet
          exact ⟨i, rfl, hil0, (trimL_at hil HT.out).2 (by rw [HC.out]; exact HS.out), rfl⟩
      · have e1 : decide ((i : Int) < (len : Int)) = false := decide_eq_false (by omega)
        go_wp2
        go_meet
        exact ⟨i, rfl, hil0, trimL_end (by have := HN.out; omega) HT.out, rfl⟩
  case rest =>
    obtain ⟨i, rfl, hil0, ht, rfl⟩ := hcut
    have HT := Lib.hid ht
    clear ht
    go_upto_block 2 with (fail)
    go_cut [4] (fun s4 wx => ∃ n : Nat, s4 = .int .i64 n ∧ i ≤ n ∧ n ≤ len ∧ (l.take n).drop i = trim l ∧ w = wx)
    case first =>
      go_wp2
      go_loopg [4] (len - i) (fun k s4 wr => ∃ n : Nat, s4 = .int .i64 n ∧ i + k = n ∧ n ≤ len ∧ trimR ((l.take n).drop i) = trimR (l.drop i) ∧ w = wr)
      case atStart => exact ⟨len, rfl, by omega, Nat.le_refl _, by rw [List.take_of_length_le (by have := HN.out; omega)], rfl⟩
      case round =>
        obtain ⟨n, rfl, hin, hnl, hr, rfl⟩ := hrel
        have HR := Lib.hid hr
        have HIN := Lib.hid hin
        have hin0 : i ≤ n := by omega
        clear hr hin
        have hT : trimR (l.drop i) = trim l := by unfold trim; rw [HT.out]
        by_cases hi : i < n
        · have hil : n - 1 < l.length := by have := HN.out; omega
          have hx : w.cell? ⟨b, o + (n - 1), none⟩ = some (byt l[n - 1]) := H.out.cell hil
          have e1 : decide ((i : Int) < (n : Int)) = true := decide_eq_true (by omega)
          have hi2 : (i : Int) < (n : Int) := by omega
          have hi3 : (n : Int) - 1 = ((n - 1 : Nat) : Int) := by omega
          have hi4 : IntKind.i64.wrap ((n : Int) - 1) = ((n - 1 : Nat) : Int) := by rw [IntKind.wrap_i64]; omega
          unfold byt at hx
          generalize hc : l[n - 1] = c at hx
          have HC := Lib.hid hc
          clear hc
          go_wp2_with (fail)
          refine (isSpace_any c _).mono ?_
          rintro e w1 ⟨rfl, rfl⟩
          cases hs : sp c with
          | true =>
            have HS := Lib.hid hs
            clear hs
            go_wp2
            go_roundg (gk - 1)
            case measure => have := HIN.out; omega
            case rel => exact ⟨n - 1, by simp, by have := HIN.out; omega, by omega, (trimR_at hi (by have := HN.out; omega) HR.out).1 (by rw [HC.out]; exact HS.out), rfl⟩
          | false =>
            have HS := Lib.hid hs
            clear hs
            go_wp2
            go_meet
            exact ⟨n, rfl, hin0, hnl, ((trimR_at hi (by have := HN.out; omega) HR.out).2 (by rw [HC.out]; exact HS.out)).trans hT, rfl⟩
        · have e1 : decide ((i : Int) < (n : Int)) = false := decide_eq_false (by omega)
          have hni : n = i := by omega
          go_wp2
          go_meet
          exact ⟨n, rfl, hin0, hnl, by rw [← hT, ← HR.out, hni, List.drop_eq_nil_of_le (by simp; omega)]; rfl, rfl⟩
    case rest =>
      obtain ⟨n, rfl, hin, hnl, hr, rfl⟩ := hcut
      have HR := Lib.hid hr
      clear hr
      have h0 : (0 : Int) ≤ (i : Int) := by omega
      have h1 : (i : Int) ≤ (n : Int) := by omega
      have h2 : (n : Int) ≤ (cap : Int) := by omega
      go_wp2
      go_ret
      have hl : n - i = (trim l).length := by rw [← HR.out]; have := HN.out; simp; omega
      refine ⟨cutAt o i cap 1, cap - i, ?_, by omega, ?_, rfl⟩
      · rw [← hl]; rfl
      · have := H.out.cut i (n - i) (cap := cap) hcap
        rwa [← List.drop_take, HR.out] at this
end Go.Proofs.YtjbbapodcngnaaaGreatDoor
namespace Go.Proofs.YtjbbapodcngnaaaGreatDoor
open Go.RowKit Hdr

theorem BytesAt.below {B : Nat} {w w' : World} {b o : Nat} {l : List UInt8} (h : BytesAt w b o l) (k : Below B w w') (hb : b < B) : BytesAt w' b o l := by
  obtain ⟨cs, t, f, h, h2⟩ := h
  exact ⟨cs, t, f, (k.block b hb).trans h, h2⟩
theorem BytesAt.below_back {B : Nat} {w w' : World} {b o : Nat} {l : List UInt8} (h : BytesAt w' b o l) (k : Below B w w') (hb : b < B) : BytesAt w b o l := by
  obtain ⟨cs, t, f, h, h2⟩ := h
  exact ⟨cs, t, f, (k.block b hb).symm.trans h, h2⟩
theorem BytesAt.take {w : World} {b o : Nat} {l : List UInt8} (h : BytesAt w b o l) (n : Nat) : BytesAt w b o (l.take n) := by
  have := h.sub 0 n
  rwa [List.drop_zero, Nat.add_zero] at this

theorem bd_len (B b : Nat) (l : List UInt8) (w : World) (h : Bd B b l w) :
    Calls Tryz.prog 184 #[.pointer (some ⟨b, 0, none⟩)] w fun e w' => e = .returned (.int .i64 l.length) ∧ w' = w := by
  refine (Tryz.Builder_Len B b (u8s l) w h).mono ?_
  rintro e w' ⟨rfl, rfl⟩
  exact ⟨by rw [u8s_length], rfl⟩

/-- The value of some lines. -/
def WcPost (B b : Nat) (l : List UInt8) (w : World) (e : Ending) (w' : World) : Prop := e = .returned (.tuple #[]) ∧ Bd B b l w' ∧ Below B w w'

set_option maxRecDepth 100000 in
set_option maxHeartbeats 1000000 in
theorem writeContinued_any (B b : Nat) (a : List UInt8) (s o cap : Nat) (l : List UInt8) (len : Nat) (hn : len = l.length) (w : World) (hb : Bd B b a w) (h : BytesAt w s o l) (hcap : l.length ≤ cap) (hlen : l.length ≤ 1000000000000) (ha : a.length ≤ 1000000000000)
    (hs : s < B) (hBw : B ≤ w.heap.size) :
    Calls Tryz.prog 136 #[.pointer (some ⟨b, 0, none⟩), .slice (some ⟨s, o, none⟩) len cap] w (WcPost B b (join a l) w) := by
  have H := Lib.hid h
  have HN := Lib.hid hn
  have HB := Lib.hid hb
  have hlen2 : len ≤ 1000000000000 := by omega
  have hcap2 : len ≤ cap := by omega
  clear h hn hb
  go_enter Tryz.func136, Tryz.ntmps136
  go_upto_region 0 with (fail)
  go_cut [15] (fun s15 wx => ∃ t : Bool, s15 = .bool t ∧ (t = true ↔ l.getLast? = some 13) ∧ w = wx)
  case first =>
    rcases nil_or_snoc l with rfl | ⟨m, x, rfl⟩
    · have h0 : len = 0 := HN.out
      subst h0
      go_wp2
      go_meet
      exact ⟨false, rfl, by simp, rfl⟩
    · have hlm : len = m.length + 1 := by rw [HN.out]; simp
      have hx := H.out.cell (i := m.length) (by simp)
      simp only [List.getElem_concat_length] at hx
      unfold byt at hx
      have e1 : decide ((0 : Int) < (len : Int)) = true := decide_eq_true (by omega)
      have e2 : (len : Int) - 1 = (m.length : Int) := by omega
      have e3 : IntKind.i64.wrap ((len : Int) - 1) = (m.length : Int) := by rw [IntKind.wrap_i64]; omega
      have e4 : (m.length : Int) < (len : Int) := by omega
      have e5 : 0 < len := by omega
      have hd : ((x.toNat : Int) == 13) = decide ((m ++ [x]).getLast? = some 13) := by
        have h1 : ((x.toNat : Int) == 13) = decide (x = 13) := by
          rw [Bool.eq_iff_iff]
          simp only [beq_iff_eq, decide_eq_true_eq]
          constructor
          · intro h; apply UInt8.toNat.inj; show x.toNat = 13; omega
          · rintro rfl; rfl
        rw [h1]
        simp
      have HD := Lib.hid hd
      clear hd hlm
      go_wp2
      go_meet
      exact ⟨_, rfl, by rw [HD.out]; simp, rfl⟩
  case rest =>
    obtain ⟨t, rfl, ht, rfl⟩ := hcut
    go_upto_if 15 with (fail)
    go_cut [1] (fun s1 wx => s1 = .slice (some ⟨s, o, none⟩) (chomp l).length cap ∧ w = wx)
    case first =>
      have hcl := chomp_last l
      cases t with
      | true =>
        have hd := ht.1 rfl
        rw [if_pos hd] at hcl
        have e5 : 0 < len := by
          have := HN.out
          rcases Nat.eq_zero_or_pos len with h | h
          · have : l = [] := List.length_eq_zero_iff.1 (by omega)
            subst this
            cases hd
          · exact h
        have HL := Lib.hid hcl
        have e2 : (len : Int) - 1 = ((len - 1 : Nat) : Int) := by omega
        have e3 : IntKind.i64.wrap ((len : Int) - 1) = ((len - 1 : Nat) : Int) := by rw [IntKind.wrap_i64]; omega
        have e4 : ((len - 1 : Nat) : Int) ≤ (cap : Int) := by omega
        have e6 : (0 : Int) ≤ ((len - 1 : Nat) : Int) := by omega
        clear hd hcl ht
        go_wp2
        go_meet
        exact ⟨by rw [HL.out, ← HN.out], rfl⟩
      | false =>
        have hd : ¬ l.getLast? = some 13 := fun h => by cases ht.2 h
        rw [if_neg hd] at hcl
        have HL := Lib.hid hcl
        clear hd hcl ht
        go_wp2
        go_meet
        exact ⟨by rw [HL.out, ← HN.out], rfl⟩
    case rest =>
      obtain ⟨rfl, rfl⟩ := hcut
      have hcl := chomp_len l
      have hB : BytesAt w s o (chomp l) := by rw [chomp_take]; exact H.out.take _
      have hbl := bare_len l
      have hj := @join_nil a l
      have hj1 := @join_first l
      have hj2 := @join_more a l
      generalize hJ : join a l = J at *
      have HJ := Lib.hid hj
      have HJ1 := Lib.hid hj1
      have HJ2 := Lib.hid hj2
      clear hj hj1 hj2
      go_wp2_with (fail)
      refine (trim_any s o cap (chomp l) (chomp l).length rfl w hB (by omega) (by omega)).mono ?_
      rintro e w1 ⟨o', cap', rfl, hc', hB', rfl⟩
      change BytesAt w1 s o' (bare l) at hB'
      have hl' : (trim (chomp l)).length = (bare l).length := rfl
      rw [hl'] at hc' ⊢
      by_cases hb0 : bare l = []
      · have e1 : ((((bare l).length : Nat) : Int) == 0) = true := by rw [hb0]; rfl
        have e2 : (bare l).length = 0 := by rw [hb0]; rfl
        have HB0 := Lib.hid hb0
        clear hb0
        go_wp2
        refine bodyPost_ret (results_none rfl _ _ _) rfl ?_
        exact ⟨rfl, by rw [HJ.out HB0.out]; exact HB.out, Below.refl _ _⟩
      · have hlp : 0 < (bare l).length := List.length_pos_iff.2 hb0
        have e1 : ((((bare l).length : Nat) : Int) == 0) = false := by simp; omega
        have e1' : ((bare l).length == 0) = false := by simp; omega
        have HB0 := Lib.hid hb0
        clear hb0
        go_wp2_with (fail)
        refine (bd_len B b a _ HB.out).mono ?_
        rintro e w2 ⟨rfl, rfl⟩
        by_cases ha0 : a = []
        · subst ha0
          go_wp2_with (fail)
          refine (write_any B b [] ⟨s, o', none⟩ cap' (bare l) (bare l).length rfl _ HB.out (fun W k => (hB'.below k hs).cells) (by simp; omega) hBw).mono ?_
          rintro e w3 ⟨⟨v, rfl⟩, hb3, k3⟩
          rw [List.nil_append] at hb3
          have HB3 := Lib.hid hb3
          clear hb3
          go_wp2
          go_end0
          exact ⟨rfl, by rw [← hJ, HJ1.out HB0.out]; exact HB3.out, k3⟩
        · have hap : 0 < a.length := List.length_pos_iff.2 ha0
          have e4 : decide ((0 : Int) < ((a.length : Nat) : Int)) = true := decide_eq_true (by omega)
          have HA0 := Lib.hid ha0
          clear ha0
          go_wp2_with (fail)
          refine (writeByte_any B b a 32 _ HB.out (by omega) hBw).mono ?_
          rintro e w3 ⟨rfl, hb3, k3⟩
          have HB3 := Lib.hid hb3
          clear hb3
          go_wp2_with (fail)
          refine (write_any B b (a ++ [32]) ⟨s, o', none⟩ cap' (bare l) (bare l).length rfl _ HB3.out (fun W k => ((hB'.below k3 hs).below k hs).cells) (by simp; omega) (by have := k3.size; omega)).mono ?_
          rintro e w4 ⟨⟨v, rfl⟩, hb4, k4⟩
          have HB4 := Lib.hid hb4
          clear hb4
          go_wp2
          go_end0
          refine ⟨rfl, ?_, k3.trans k4⟩
          rw [HJ2.out HB0.out HA0.out]
          have := HB4.out
          rwa [List.append_assoc, List.singleton_append] at this
/-- What trimAroundNewlines leaves. -/
def TanPost (v : List UInt8) (w : World) (e : Ending) (w' : World) : Prop := e = .returned (.string ⟨v.toArray⟩) ∧ Keeps No w w'

set_option maxRecDepth 100000 in
set_option maxHeartbeats 1000000 in
theorem tan_any (s o cap : Nat) (v : List UInt8) (len : Nat) (hn : len = v.length) (w : World) (h : BytesAt w s o v) (hcap : v.length ≤ cap) (hlen : v.length ≤ 1000000000) :
    Calls Tryz.prog 100 #[.slice (some ⟨s, o, none⟩) len cap] w (TanPost (joins [] v) w) := by
  have hs := h.lt
  have H := Lib.hid h
  have HN := Lib.hid hn
  have hlen2 : len ≤ 1000000000 := by omega
  clear h hn
  go_enter Tryz.func100, Tryz.ntmps100
  go_wp2_with (fail)
  refine (Tryz.Builder_Grow_fresh w.heap.size w.heap.size len _ (Nat.le_refl _) (heap_alloc_new w _) (by simp) (by omega)).mono ?_
  rintro e w1 ⟨rfl, hb1, k1⟩
  have K1 : Below w.heap.size w w1 := ((Below.refl _ w).alloc (Nat.le_refl _) _).trans k1
  have HB1 : Bd w.heap.size w.heap.size [] w1 := .inr hb1
  clear hb1 k1
  go_wp2
  go_loopg [0] len (fun n s0 wr => ∃ (o' cap' : Nat) (a c : List UInt8), s0 = .slice (some ⟨s, o', none⟩) c.length cap' ∧ c.length ≤ cap' ∧ BytesAt w s o' c ∧ joins a c = joins [] v ∧ Bd w.heap.size w.heap.size a wr ∧ Below w.heap.size w wr ∧ a.length + c.length ≤ v.length ∧ n = c.length)
  case atStart => exact ⟨o, cap, [], v, by rw [HN.out], hcap, H.out, rfl, HB1, K1, by simp, HN.out⟩
  case round =>
    obtain ⟨o', cap', a, c, rfl, hc1, hby, hj, hbd, kb, hac, hnn⟩ := hrel
    have HJ := Lib.hid hj
    have HBD := Lib.hid hbd
    have HBY := Lib.hid (hby.below kb hs)
    have HNN := Lib.hid hnn
    clear hj hbd hby hnn
    go_wp2_with (fail)
    refine (indexByte_any s o' cap' c 10 wr HBY.out).mono ?_
    rintro e w2 ⟨rfl, rfl⟩
    cases hb : behind c with
    | nil =>
      have hno := upto_no c
      have hcu := split c
      rw [hb, List.append_nil] at hcu
      rw [← hcu] at hno
      have hx := ixb_none hno
      rw [hx]
      have HX := Lib.hid hb
      clear hb hx hno hcu
      go_wp2_with (fail)
      refine (writeContinued_any w.heap.size w.heap.size a s o' cap' c c.length rfl _ HBD.out HBY.out hc1 (by omega) (by omega) hs kb.size).mono ?_
      rintro e w3 ⟨rfl, hb3, k3⟩
      have HB3 := Lib.hid hb3
      clear hb3
      go_wp2_with (fail)
      refine (Tryz.Builder_String_any w.heap.size w.heap.size (join a c) w3 HB3.out (by have := kb.size; have := k3.size; omega)).mono ?_
      rintro e w4 ⟨rfl, k4⟩
      go_wp2
      go_ret
      refine ⟨?_, Keeps.of_below ((kb.trans k3).trans k4)⟩
      rw [← HJ.out, joins_end HX.out]
      rfl
    | cons x r =>
      have hno := upto_no c
      have hcu := split c
      have hx10 := behind_head hb
      subst hx10
      have hix : Lib.indexByte c 10 = (upto c).length := by
        conv => lhs; rw [hcu, hb]
        exact ixb_some hno
      rw [hix]
      have hcl : c.length = (upto c).length + 1 + r.length := by
        have := congrArg List.length hcu
        rw [hb] at this
        simp at this
        omega
      have htk : c.take (upto c).length = upto c := by
        have := congrArg (List.take (upto c).length) hcu
        rwa [List.take_left] at this
      have hdr : c.drop ((upto c).length + 1) = r := by
        have := congrArg (List.drop ((upto c).length + 1)) hcu
        rw [hb, List.drop_append, List.drop_eq_nil_of_le (Nat.le_succ _)] at this
        simpa using this
      have hjj := joins_nl (a := a) hb
      have HBU : BytesAt w2 s o' (upto c) := by
        have := HBY.out.take (upto c).length
        rwa [htk] at this
      have HJJ := Lib.hid (hjj.symm.trans HJ.out)
      have HDR := Lib.hid hdr
      have HCL := Lib.hid hcl
      have hjl := join_len a (upto c)
      have h1 : decide (((upto c).length : Int) < 0) = false := decide_eq_false (by omega)
      have h2 : ((upto c).length : Int) ≤ (cap' : Int) := by omega
      have h3 : IntKind.i64.wrap (((upto c).length : Int) + 1) = ((upto c).length : Int) + 1 := by rw [IntKind.wrap_i64]; omega
      have h4 : ((upto c).length : Int) + 1 ≤ (c.length : Int) := by omega
      have h0 : (0 : Int) ≤ ((upto c).length : Int) := by omega
      have h5 : (0 : Int) ≤ ((upto c).length : Int) + 1 := by omega
      clear hb hno hcu hix htk hdr hjj hcl
      generalize hu : upto c = u at *
      clear hu
      go_wp2_with (fail)
      refine (writeContinued_any w.heap.size w.heap.size a s o' cap' u u.length rfl _ HBD.out HBU (by omega) (by omega) (by omega) hs kb.size).mono ?_
      rintro e w3 ⟨rfl, hb3, k3⟩
      have HB3 := Lib.hid hb3
      clear hb3
      go_wp2
      go_roundg r.length
      case measure => have := HCL.out; have := HNN.out; omega
      case rel =>
        have e1 : ((u.length : Int) + 1).toNat = u.length + 1 := by omega
        have hcl := HCL.out
        refine ⟨cutAt o' (u.length + 1) cap' 1, cap' - (u.length + 1), join a u, r, ?_, by omega, ?_, HJJ.out, HB3.out, kb.trans k3, by omega, rfl⟩
        · rw [show c.length - (u.length + 1) = r.length by omega]
        · have := HBY.out.cut_l (u.length + 1) hc1
          rw [HDR.out] at this
          exact this.below_back kb hs
end Go.Proofs.YtjbbapodcngnaaaGreatDoor
