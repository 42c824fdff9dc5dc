/- A map from strings to slices of pointers, as a list of groups. -/
import Derived.Test.YtjbbapodcngnaaaDoorTpG
import Derived.Test.YtjbbapodcngnaaaDoorEff
import Derived.Maps.Own
namespace Go.Proofs.YtjbbapodcngnaaaDoor
open Go.RowKit Hdr

/-- Pointers to blocks. -/
def ptrs (l : List Nat) : List Value := l.map fun b => .pointer (some ⟨b, 0, none⟩)
@[simp] theorem ptrs_length (l : List Nat) : (ptrs l).length = l.length := by simp [ptrs]
@[simp] theorem ptrs_append (l m : List Nat) : ptrs (l ++ m) = ptrs l ++ ptrs m := by simp [ptrs]
theorem ptrs_one (l : List Nat) : ∀ v ∈ ptrs l, v.oneCell' = true := by
  intro v hv
  simp only [ptrs, List.mem_map] at hv
  obtain ⟨c, _, rfl⟩ := hv
  rfl
/-- A slice of pointers of ours. -/
abbrev PS (w : World) (base : Nat) (v : Value) (l : List Nat) : Prop := w.ownsRow base 67 1 v l.length (ptrs l)

structure Grp where
  key : List UInt8
  v : Value
  ps : List Nat

theorem str_beq (a b : List UInt8) : ((⟨a.toArray⟩ : ByteArray) == ⟨b.toArray⟩) = decide (a = b) := by
  have e : ((⟨a.toArray⟩ : ByteArray) == ⟨b.toArray⟩) = (a.toArray == b.toArray) := rfl
  rw [e, Bool.eq_iff_iff]
  simp

open Instr in
theorem findNow_none (k : List UInt8) : ∀ (es : List MapEntry) (gs : List Grp) (i : Nat), es.map (fun e => (e.key, e.val)) = gs.map (fun x => (str x.key, x.v)) → (∀ x ∈ gs, x.key ≠ k) → findNow .string (str k) es i = some none
  | [], [], _, _, _ => rfl
  | e :: es, x :: gs, i, h, hn => by
    simp only [List.map_cons, List.cons.injEq, Prod.mk.injEq] at h
    have h1 : x.key ≠ k := hn x (List.mem_cons_self ..)
    have h2 : sameNow .string (str k) e.key = some false := by
      rw [h.1.1]
      show some (((⟨k.toArray⟩ : ByteArray) == ⟨x.key.toArray⟩)) = _
      rw [str_beq, decide_eq_false (fun h => h1 h.symm)]
    rw [findNow, h2]
    exact findNow_none k es gs (i + 1) h.2 (fun y hy => hn y (List.mem_cons_of_mem _ hy))
  | [], _ :: _, _, h, _ => by simp at h
  | _ :: _, [], _, h, _ => by simp at h

open Instr in
theorem findNow_some (k : List UInt8) (x : Grp) (hx : x.key = k) (b : List Grp) : ∀ (es : List MapEntry) (a : List Grp) (i : Nat), es.map (fun e => (e.key, e.val)) = (a ++ x :: b).map (fun x => (str x.key, x.v)) → (∀ x ∈ a, x.key ≠ k) → findNow .string (str k) es i = some (some (i + a.length, x.v))
  | e :: es, [], i, h, _ => by
    simp only [List.nil_append, List.map_cons, List.cons.injEq, Prod.mk.injEq] at h
    have h2 : sameNow .string (str k) e.key = some true := by
      rw [h.1.1, hx]
      show some (((⟨k.toArray⟩ : ByteArray) == ⟨k.toArray⟩)) = _
      rw [str_beq, decide_eq_true rfl]
    rw [findNow, h2]
    simp only [h.1.2, List.length_nil, Nat.add_zero]
  | e :: es, y :: a, i, h, hn => by
    simp only [List.cons_append, List.map_cons, List.cons.injEq, Prod.mk.injEq] at h
    have h1 : y.key ≠ k := hn y (List.mem_cons_self ..)
    have h2 : sameNow .string (str k) e.key = some false := by
      rw [h.1.1]
      show some (((⟨k.toArray⟩ : ByteArray) == ⟨y.key.toArray⟩)) = _
      rw [str_beq, decide_eq_false (fun h => h1 h.symm)]
    rw [findNow, h2]
    simp only
    rw [findNow_some k x hx b es a (i + 1) h.2 (fun y hy => hn y (List.mem_cons_of_mem _ hy))]
    simp; omega
  | [], [], _, h, _ => by simp at h
  | [], _ :: _, _, h, _ => by simp at h

/-- Block mb is a map whose entries are these groups. -/
def MapE (w : World) (mb : Nat) (gs : List Grp) : Prop :=
  ∃ es clock, w.heap[mb]? = some (.map es clock) ∧ es.toList.map (fun e => (e.key, e.val)) = gs.map (fun x => (str x.key, x.v))
theorem MapE.lt {w : World} {mb : Nat} {gs : List Grp} (h : MapE w mb gs) : mb < w.heap.size := by
  obtain ⟨es, c, h, _⟩ := h
  exact (Array.getElem?_eq_some_iff.1 h).1
theorem MapE.keep {S : Nat → Prop} {w w' : World} {mb : Nat} {gs : List Grp} (h : MapE w mb gs) (k : Keeps S w w') (hS : ¬ S mb) : MapE w' mb gs := by
  have hl := h.lt
  obtain ⟨es, c, h, h2⟩ := h
  exact ⟨es, c, (k.block mb hl hS).trans h, h2⟩
theorem MapE.ne {w : World} {mb b : Nat} {gs : List Grp} {cs : Array Value} {t : TypeId} {f : Nat × Nat} (h : MapE w mb gs) (hb : w.heap[b]? = some (.cells cs t f)) : mb ≠ b := by
  obtain ⟨es, c, h, _⟩ := h
  rintro rfl
  rw [h] at hb
  cases hb

theorem zero_hfs (w : World) : (zeroValue 42).run Tryd.prog w = .ok (.slice none 0 0) w := by kernel_rfl
theorem und_map : Tryd.prog.underlying 43 = some (.map 9 42) := Tryd.underlying43
theorem check_str (w : World) (e : Bool) (k : List UInt8) : (Instr.checkKey e 10000 9 (str k)).run Tryd.prog w = .ok () w := by
  rw [Instr.checkKey]
  simp [run_underlying Tryd.underlying9]

/-- 'm[k]' where no group has the key. -/
theorem run_lookup_none (w : World) (mb : Nat) (gs : List Grp) (k : List UInt8) (h : MapE w mb gs) (hn : ∀ x ∈ gs, x.key ≠ k) :
    (Instr.lookup 43 (.map (some mb)) (str k) false).run Tryd.prog w = .ok (.slice none 0 0) w := by
  obtain ⟨es, c, hb, he⟩ := h
  have hf := findNow_none k es.toList gs 0 he hn
  simp [Instr.lookup, run_underlying und_map, MapKept.run_getObj_map hb, check_str, Instr.findKey, run_underlying Tryd.underlying9, hf, Result.andThen]
theorem run_lookup_none_ok (w : World) (mb : Nat) (gs : List Grp) (k : List UInt8) (h : MapE w mb gs) (hn : ∀ x ∈ gs, x.key ≠ k) :
    (Instr.lookup 43 (.map (some mb)) (str k) true).run Tryd.prog w = .ok (.tuple #[.slice none 0 0, .bool false]) w := by
  obtain ⟨es, c, hb, he⟩ := h
  have hf := findNow_none k es.toList gs 0 he hn
  simp [Instr.lookup, run_underlying und_map, MapKept.run_getObj_map hb, check_str, Instr.findKey, run_underlying Tryd.underlying9, hf, Result.andThen]
/-- .. where one has it. -/
theorem run_lookup_some (w : World) (mb : Nat) (a b : List Grp) (x : Grp) (h : MapE w mb (a ++ x :: b)) (hn : ∀ y ∈ a, y.key ≠ x.key) :
    (Instr.lookup 43 (.map (some mb)) (str x.key) false).run Tryd.prog w = .ok x.v w := by
  obtain ⟨es, c, hb, he⟩ := h
  have hf := findNow_some x.key x rfl b es.toList a 0 he hn
  simp [Instr.lookup, run_underlying und_map, MapKept.run_getObj_map hb, check_str, Instr.findKey, run_underlying Tryd.underlying9, hf, Result.andThen]
theorem run_lookup_some_ok (w : World) (mb : Nat) (a b : List Grp) (x : Grp) (h : MapE w mb (a ++ x :: b)) (hn : ∀ y ∈ a, y.key ≠ x.key) :
    (Instr.lookup 43 (.map (some mb)) (str x.key) true).run Tryd.prog w = .ok (.tuple #[x.v, .bool true]) w := by
  obtain ⟨es, c, hb, he⟩ := h
  have hf := findNow_some x.key x rfl b es.toList a 0 he hn
  simp [Instr.lookup, run_underlying und_map, MapKept.run_getObj_map hb, check_str, Instr.findKey, run_underlying Tryd.underlying9, hf, Result.andThen]

/-- The map with other entries. -/
def setM (w : World) (mb : Nat) (o : Obj) : World := { w with heap := w.heap.setIfInBounds mb o }
theorem setM_keeps (w : World) (mb : Nat) (o : Obj) : Keeps (In [mb]) w (setM w mb o) :=
  ⟨rfl, rfl, rfl, by simp [setM], fun k _ hS => by
    have : mb ≠ k := fun e => hS (by simp [In, e])
    simp only [setM, Array.getElem?_setIfInBounds]
    rw [if_neg this]⟩
theorem setM_same {w : World} {mb : Nat} (o : Obj) (h : mb < w.heap.size) : (setM w mb o).heap[mb]? = some o := by
  simp only [setM, Array.getElem?_setIfInBounds]
  rw [if_pos trivial, if_pos h]

theorem stays_str (w : World) (k : List UInt8) : (Instr.keyThatStays (str k) (str k)).run Tryd.prog w = .ok (str k) w := by
  have h : Instr.sameBits 10000 (str k) (str k) = true := by
    show (((⟨k.toArray⟩ : ByteArray) == ⟨k.toArray⟩)) = true
    rw [str_beq, decide_eq_true rfl]
  simp [Instr.keyThatStays, h]

/-- 'm[k] = v' where no group has the key. -/
theorem run_update_none (w : World) (mb : Nat) (gs : List Grp) (x : Grp) (h : MapE w mb gs) (hn : ∀ y ∈ gs, y.key ≠ x.key) :
    ∃ W, (Instr.mapUpdate 43 (.map (some mb)) (str x.key) x.v).run Tryd.prog w = .ok () W ∧ MapE W mb (gs ++ [x]) ∧ Keeps (In [mb]) w W := by
  have hlt := h.lt
  obtain ⟨es, c, hb, he⟩ := h
  have hf := findNow_none x.key es.toList gs 0 he hn
  refine ⟨setM w mb (.map (es.push { key := str x.key, val := x.v, born := c }) (c + 1)), ?_, ⟨_, _, setM_same _ hlt, ?_⟩, setM_keeps _ _ _⟩
  · simp [Instr.mapUpdate, run_underlying und_map, MapKept.run_getObj_map hb, check_str, Instr.findKey, run_underlying Tryd.underlying9, hf, MapKept.run_setObj_map _ hb, Result.andThen, setM]
  · simp [he]

/-- .. where one has it. -/
theorem run_update_some (w : World) (mb : Nat) (a b : List Grp) (y x : Grp) (h : MapE w mb (a ++ y :: b)) (hy : y.key = x.key) (hn : ∀ y ∈ a, y.key ≠ x.key) :
    ∃ W, (Instr.mapUpdate 43 (.map (some mb)) (str x.key) x.v).run Tryd.prog w = .ok () W ∧ MapE W mb (a ++ x :: b) ∧ Keeps (In [mb]) w W := by
  have hlt := h.lt
  obtain ⟨es, c, hb, he⟩ := h
  have hf := findNow_some x.key y hy b es.toList a 0 he hn
  rw [Nat.zero_add] at hf
  have hlen : es.size = a.length + 1 + b.length := by
    have := congrArg List.length he
    simp at this
    omega
  have hkey : (es[a.length]?).map (·.key) = some (str x.key) := by
    have h1 := congrArg (fun l => l[a.length]?) he
    simp only [List.getElem?_map, Array.getElem?_toList] at h1
    rw [List.getElem?_append_right (Nat.le_refl _), Nat.sub_self, List.getElem?_cons_zero] at h1
    cases hq : es[a.length]? with
    | none => rw [hq] at h1; simp at h1
    | some e => rw [hq] at h1; simp at h1; simp [h1.1, hy]
  refine ⟨setM w mb (.map (es.modify a.length fun e => { e with key := str x.key, val := x.v }) c), ?_, ⟨_, _, setM_same _ hlt, ?_⟩, setM_keeps _ _ _⟩
  · simp [Instr.mapUpdate, run_underlying und_map, MapKept.run_getObj_map hb, check_str, Instr.findKey, run_underlying Tryd.underlying9, hf, hkey, stays_str, MapKept.run_setObj_map _ hb, Result.andThen, setM]
  · apply List.ext_getElem?
    intro j
    have h1 := congrArg (fun l => l[j]?) he
    simp only [List.getElem?_map, Array.getElem?_toList, Array.getElem?_modify] at h1 ⊢
    by_cases hj : a.length = j
    · subst hj
      rw [if_pos rfl, List.getElem?_append_right (Nat.le_refl _), Nat.sub_self, List.getElem?_cons_zero]
      have hj2 : a.length < es.size := by omega
      simp [hj2]
    · rw [if_neg hj, h1]
      rcases Nat.lt_or_ge j a.length with h2 | h2
      · rw [List.getElem?_append_left h2, List.getElem?_append_left h2]
      · obtain ⟨d, rfl⟩ : ∃ d, j = a.length + (d + 1) := ⟨j - a.length - 1, by omega⟩
        rw [List.getElem?_append_right (by omega), List.getElem?_append_right (by omega)]
        simp
/-- The store into the map, at the operation. -/
theorem wpList_update {w : World} {ops : Array Oper} {rest : List Oper} {o : Oper} {a : Act} {Q : Exit → Act → World → Prop} {R : World → Prop} (hg : o.guard = none) (m x v : Operand) (ho : o.op = Op.mapUpdate 43 m x v)
    (mb : Nat) (key : List UInt8) (val : Value) (hm : a.eval m = .map (some mb)) (hx : a.eval x = str key) (hv : a.eval v = val)
    (hrun : ∃ W, (Instr.mapUpdate 43 (.map (some mb)) (str key) val).run Tryd.prog w = .ok () W ∧ R W) (hK : ∀ W, R W → wpList Tryd.prog ops Q rest (a.put o.dst undef) W) : wpList Tryd.prog ops Q (o :: rest) a w := by
  refine wpList_plain hg fun K' hK' => ?_
  obtain ⟨W, hrun, hR⟩ := hrun
  unfold Oper.wp
  simp [execOp, ho, hm, hx, hv, hrun, Result.andThen]
  exact hK' _ _ (hK W hR)
end Go.Proofs.YtjbbapodcngnaaaDoor
