/- Words of our own: what a call keeps of memory ('Keeps'), a block that is known whole ('Blk'), bytes in a block ('BytesAt'). Nothing of the program is named here. Regions that draw their order: some operations that only look (in a class of worlds), then one effect that waits for all of them, and behind it moves alone. One walk of the text's order serves every order.  Headers as lists of bytes: lines, fields. No program in sight.  -/
import Derived.WalkKit
import Derived.WalkLawsBesides
import Derived.WalkSpells
import Derived.Deep.QuietTactic
import Derived.BigQuiet
import Derived.Lib.Hide
import Derived.StillTailTactics
import Derived.Test.YtjbbapodcngnaaaGreatDoorProg
import Derived.Deep.DeepCutAuto
import Derived.Deep.CutBlock
import Derived.Lib.BytesEntry
namespace Go.Proofs.YtjbbapodcngnaaaGreatDoor
open Go.RowKit

/-- Behind w' all blocks of w stand as they stood, but for those in S; the streams are as they were. -/
structure Keeps (S : Nat → Prop) (w w' : World) : Prop where
  os : w'.os = w.os
  tape : w'.tape = w.tape
  output : w'.output = w.output
  size : w.heap.size ≤ w'.heap.size
  block : ∀ k, k < w.heap.size → ¬ S k → w'.heap[k]? = w.heap[k]?

/-- No block. -/
def No : Nat → Prop := fun _ => False
/-- These blocks. -/
def In (l : List Nat) : Nat → Prop := fun k => k ∈ l

theorem Keeps.refl (S : Nat → Prop) (w : World) : Keeps S w w := ⟨rfl, rfl, rfl, Nat.le_refl _, fun _ _ _ => rfl⟩
theorem Keeps.trans {S T : Nat → Prop} {a b c : World} (h : Keeps S a b) (k : Keeps T b c) (hT : ∀ i, i < a.heap.size → T i → S i) : Keeps S a c :=
  ⟨k.os.trans h.os, k.tape.trans h.tape, k.output.trans h.output, Nat.le_trans h.size k.size,
    fun i hi hS => (k.block i (Nat.lt_of_lt_of_le hi h.size) (fun ht => hS (hT i hi ht))).trans (h.block i hi hS)⟩
theorem Keeps.trans' {S : Nat → Prop} {a b c : World} (h : Keeps S a b) (k : Keeps S b c) : Keeps S a c := h.trans k (fun _ _ h => h)
theorem Keeps.mono {S T : Nat → Prop} {a b : World} (h : Keeps S a b) (hT : ∀ i, i < a.heap.size → S i → T i) : Keeps T a b :=
  ⟨h.os, h.tape, h.output, h.size, fun i hi ht => h.block i hi (fun hs => ht (hT i hi hs))⟩
theorem Keeps.of_no {T : Nat → Prop} {a b : World} (h : Keeps No a b) : Keeps T a b := h.mono (fun _ _ h => h.elim)
theorem Keeps.trans_no {S : Nat → Prop} {a b c : World} (h : Keeps S a b) (k : Keeps No b c) : Keeps S a c := h.trans k (fun _ _ h => h.elim)
theorem Keeps.drew {S : Nat → Prop} {a b : World} (h : Keeps S a b) : Keeps S a b.drew := ⟨h.os, h.tape, h.output, h.size, h.block⟩
theorem Keeps.drewN {S : Nat → Prop} {a b : World} (h : Keeps S a b) (n : Nat) : Keeps S a (b.drewN n) := ⟨h.os, h.tape, h.output, h.size, h.block⟩
theorem Keeps.drewN_left {S : Nat → Prop} {a b : World} {n : Nat} (h : Keeps S (a.drewN n) b) : Keeps S a b := ⟨h.os, h.tape, h.output, h.size, h.block⟩
theorem Keeps.alloc {S : Nat → Prop} {a b : World} (h : Keeps S a b) (o : Obj) : Keeps S a (b.alloc o) :=
  ⟨h.os, h.tape, h.output, by have := h.size; simp; omega, fun i hi hS => (Below.heap_alloc b o i (Nat.lt_of_lt_of_le hi h.size)).trans (h.block i hi hS)⟩
theorem Keeps.setCell {S : Nat → Prop} {a b : World} (h : Keeps S a b) {p : Addr} (hp : S p.block ∨ a.heap.size ≤ p.block) (u : Value) : Keeps S a (b.setCell p u) :=
  ⟨h.os, h.tape, h.output, by have := h.size; simpa using this, fun i hi hS => (Below.heap_setCell b p u i (fun e => by subst e; rcases hp with h | h; exact hS h; omega)).trans (h.block i hi hS)⟩
theorem Keeps.setRow {S : Nat → Prop} {a b : World} (h : Keeps S a b) {g : Nat} (hp : S g ∨ a.heap.size ≤ g) (cs : Array Value) : Keeps S a (b.setRow g cs) :=
  ⟨h.os, h.tape, h.output, by have := h.size; simpa using this, fun i hi hS => (setRow_other b g i cs (fun e => by subst e; rcases hp with h | h; exact hS h; omega)).trans (h.block i hi hS)⟩
theorem Keeps.grown {S : Nat → Prop} {a b c : World} {row : Option Nat} (h : Keeps S a b) (hg : b.grownBy c row) (hr : ∀ k, row = some k → S k ∨ a.heap.size ≤ k) : Keeps S a c :=
  ⟨hg.os.trans h.os, hg.tape.trans h.tape, hg.output.trans h.output, Nat.le_trans h.size hg.size,
    fun i hi hS => (hg.block i (Nat.lt_of_lt_of_le hi h.size) (fun e => by rcases hr i e.symm with h | h; exact hS h; omega)).trans (h.block i hi hS)⟩
theorem Keeps.row_one (w : World) (g : Nat) (cs : Array Value) : Keeps (In [g]) w (w.setRow g cs) := (Keeps.refl _ w).setRow (.inl (List.mem_singleton.2 rfl)) cs
theorem Keeps.cell_one (w : World) (p : Addr) (v : Value) : Keeps (In [p.block]) w (w.setCell p v) := (Keeps.refl _ w).setCell (.inl (List.mem_singleton.2 rfl)) v
theorem Keeps.of_below {S : Nat → Prop} {a b : World} (h : Below a.heap.size a b) : Keeps S a b := ⟨h.os, h.tape, h.output, h.size, fun k hk _ => h.block k hk⟩
theorem Keeps.below {a b : World} (h : Keeps No a b) : Below a.heap.size a b := ⟨h.os, h.tape, h.output, h.size, fun k hk => h.block k hk (fun h => h)⟩
theorem Keeps.cell {S : Nat → Prop} {a b : World} (h : Keeps S a b) {p : Addr} {v : Value} (hc : a.cell? p = some v) (hS : ¬ S p.block) : b.cell? p = some v :=
  (World.cell?_of_block (h.block p.block (World.block_lt_of_cell? a p hc) hS)).trans hc

/-- Block b holds these cells, of this type, and nothing of it is frozen. -/
def Blk (w : World) (b : Nat) (cs : List Value) (t : TypeId) : Prop := w.heap[b]? = some (.cells cs.toArray t (0, 0))

theorem Blk.lt {w : World} {b : Nat} {cs : List Value} {t : TypeId} (h : Blk w b cs t) : b < w.heap.size := (Array.getElem?_eq_some_iff.1 h).1
theorem Blk.cell {w : World} {b : Nat} {cs : List Value} {t : TypeId} (h : Blk w b cs t) (i : Nat) : w.cell? ⟨b, i, none⟩ = cs[i]? := by
  unfold Blk at h; simp [World.cell?, h]
theorem Blk.frozen {w : World} {b : Nat} {cs : List Value} {t : TypeId} (h : Blk w b cs t) (i : Nat) : w.frozen? ⟨b, i, none⟩ = false := by
  unfold Blk at h; simp [World.frozen?, h]
theorem Blk.keep {S : Nat → Prop} {w w' : World} {b : Nat} {cs : List Value} {t : TypeId} (h : Blk w b cs t) (k : Keeps S w w') (hS : ¬ S b) : Blk w' b cs t :=
  (k.block b h.lt hS).trans h
theorem Blk.keep_no {w w' : World} {b : Nat} {cs : List Value} {t : TypeId} (h : Blk w b cs t) (k : Keeps No w w') : Blk w' b cs t := h.keep k (fun h => h)
theorem Blk.alloc {w : World} {b : Nat} {cs : List Value} {t : TypeId} (h : Blk w b cs t) (o : Obj) : Blk (w.alloc o) b cs t := (Below.heap_alloc w o b h.lt).trans h
theorem Blk.drew {w : World} {b : Nat} {cs : List Value} {t : TypeId} (h : Blk w b cs t) : Blk w.drew b cs t := h
theorem Blk.drewN {w : World} {b : Nat} {cs : List Value} {t : TypeId} (h : Blk w b cs t) (n : Nat) : Blk (w.drewN n) b cs t := h
theorem Blk.set {w : World} {b : Nat} {cs : List Value} {t : TypeId} (h : Blk w b cs t) (i : Nat) (v : Value) : Blk (w.setCell ⟨b, i, none⟩ v) b (cs.set i v) t := by
  unfold Blk at *
  simp only [World.setCell, Array.getElem?_modify, if_true, h, Option.map_some]
  simp
theorem Blk.set_same {w : World} {b : Nat} {cs : List Value} {t : TypeId} (h : Blk w b cs t) {i : Nat} {v : Value} (hv : cs[i]? = some v) : Blk (w.setCell ⟨b, i, none⟩ v) b cs t := by
  have h2 := h.set i v
  have e : cs.set i v = cs := by
    apply List.ext_getElem?
    intro j
    rw [List.getElem?_set]
    by_cases hj : i = j
    · subst hj
      rw [if_pos rfl]
      rw [hv]
      have := (List.getElem?_eq_some_iff.1 hv).1
      simp [this]
    · rw [if_neg hj]
  rwa [e] at h2
theorem Blk.set_other {w : World} {b : Nat} {cs : List Value} {t : TypeId} (h : Blk w b cs t) {p : Addr} (hp : p.block ≠ b) (v : Value) : Blk (w.setCell p v) b cs t :=
  (Below.heap_setCell w p v b (Ne.symm hp)).trans h
theorem Blk.row {w : World} {b : Nat} {cs : List Value} {t : TypeId} (h : Blk w b cs t) (cs' : List Value) : Blk (w.setRow b cs'.toArray) b cs' t := setRow_heap w b _ _ t _ h
theorem Blk.new (w : World) (cs : List Value) (t : TypeId) : Blk (w.alloc (.cells cs.toArray t)) w.heap.size cs t := heap_alloc_new w _
theorem Blk.to {w : World} {b : Nat} {cs cs' : List Value} {t : TypeId} (h : Blk w b cs t) (e : cs = cs') : Blk w b cs' t := e ▸ h
theorem Blk.ne {w : World} {b b' : Nat} {cs cs' : List Value} {t t' : TypeId} (h : Blk w b cs t) (h' : Blk w b' cs' t') (hne : t ≠ t') : b ≠ b' := by
  rintro rfl
  unfold Blk at h h'
  rw [h] at h'
  injection h' with h'
  injection h' with h1 h2
  exact hne h2

theorem nil_or_snoc {α : Type} (l : List α) : l = [] ∨ ∃ m x, l = m ++ [x] := by
  rcases List.eq_nil_or_concat l with h | ⟨m, x, h⟩
  · exact .inl h
  · exact .inr ⟨m, x, by rw [h, List.concat_eq_append]⟩

/-- A byte as a cell. -/
def byt (c : UInt8) : Value := .int .u8 c.toNat
/-- The cells of some bytes. -/
def u8s (l : List UInt8) : List Value := l.map byt
@[simp] theorem u8s_length (l : List UInt8) : (u8s l).length = l.length := by simp [u8s]
@[simp] theorem u8s_append (l m : List UInt8) : u8s (l ++ m) = u8s l ++ u8s m := by simp [u8s]
@[simp] theorem u8s_nil : u8s [] = [] := rfl
theorem u8s_get (l : List UInt8) (i : Nat) : (u8s l)[i]? = l[i]?.map byt := by simp [u8s]
theorem u8s_take (l : List UInt8) (i : Nat) : u8s (l.take i) = (u8s l).take i := by simp [u8s, List.map_take]
theorem u8s_drop (l : List UInt8) (i : Nat) : u8s (l.drop i) = (u8s l).drop i := by simp [u8s, List.map_drop]
theorem u8s_one (l : List UInt8) : ∀ v ∈ u8s l, v.oneCell' = true := by
  intro v hv
  simp only [u8s, List.mem_map] at hv
  obtain ⟨c, _, rfl⟩ := hv
  rfl

theorem extract_mid (s : ByteArray) (i j : Nat) : (s.extract i j).data.toList = (s.data.toList.drop i).take (j - i) := by
  rw [ByteArray.data_extract, Array.toList_extract, List.extract_eq_take_drop]

/-- From place o of block b on stand these bytes. -/
def BytesAt (w : World) (b o : Nat) (l : List UInt8) : Prop := ∃ cs t f, w.heap[b]? = some (.cells cs t f) ∧ (cs.toList.drop o).take l.length = u8s l

theorem BytesAt.lt {w : World} {b o : Nat} {l : List UInt8} (h : BytesAt w b o l) : b < w.heap.size := by
  obtain ⟨cs, t, f, h, _⟩ := h
  exact (Array.getElem?_eq_some_iff.1 h).1
theorem BytesAt.keep {S : Nat → Prop} {w w' : World} {b o : Nat} {l : List UInt8} (h : BytesAt w b o l) (k : Keeps S w w') (hS : ¬ S b) : BytesAt w' b o l := by
  have hlt := h.lt
  obtain ⟨cs, t, f, h, h2⟩ := h
  exact ⟨cs, t, f, (k.block b hlt hS).trans h, h2⟩
theorem BytesAt.cell {w : World} {b o : Nat} {l : List UInt8} (h : BytesAt w b o l) {i : Nat} (hi : i < l.length) : w.cell? ⟨b, o + i, none⟩ = some (byt l[i]) := by
  obtain ⟨cs, t, f, h, h2⟩ := h
  have h3 : ((cs.toList.drop o).take l.length)[i]? = some (byt l[i]) := by rw [h2, u8s_get]; simp [hi]
  rw [List.getElem?_take, if_pos hi, List.getElem?_drop] at h3
  simp only [World.cell?, h]
  simpa using h3
theorem BytesAt.cells {w : World} {b o : Nat} {l : List UInt8} (h : BytesAt w b o l) : ∀ j u, (u8s l)[j]? = some u → w.cell? ((⟨b, o, none⟩ : Addr).add j) = some u := by
  intro j u hu
  have hadd : (⟨b, o, none⟩ : Addr).add j = ⟨b, o + j, none⟩ := by unfold Addr.add; split <;> simp_all
  rw [hadd]
  rw [u8s_get] at hu
  have hj : j < l.length := by
    rcases Nat.lt_or_ge j l.length with h | h
    · exact h
    · simp [List.getElem?_eq_none h] at hu
  rw [h.cell hj]
  simp [hj] at hu
  rw [hu]
theorem BytesAt.of_blk {w : World} {b : Nat} {cs : List Value} {t : TypeId} (h : Blk w b cs t) {o : Nat} {l : List UInt8} (hl : (cs.drop o).take l.length = u8s l) : BytesAt w b o l :=
  ⟨cs.toArray, t, (0, 0), h, by simpa using hl⟩
theorem BytesAt.sub {w : World} {b o : Nat} {l : List UInt8} (h : BytesAt w b o l) (i n : Nat) : BytesAt w b (o + i) ((l.drop i).take n) := by
  obtain ⟨cs, t, f, h, h2⟩ := h
  refine ⟨cs, t, f, h, ?_⟩
  rw [u8s_take, u8s_drop, ← h2]
  simp only [List.length_take, List.length_drop, List.drop_take, List.drop_drop, List.take_take]
theorem BytesAt.nil {w : World} {b o : Nat} {l : List UInt8} (h : BytesAt w b o l) (o' : Nat) : BytesAt w b o' [] := by
  obtain ⟨cs, t, f, h, _⟩ := h
  exact ⟨cs, t, f, h, by simp⟩

/-! ### Draws alone -/
/-- w' is w behind some draws. -/
def Drawn (w w' : World) : Prop := ∃ n, w' = w.drewN n
theorem Drawn.refl (w : World) : Drawn w w := ⟨0, rfl⟩
theorem Drawn.drewN {w w' : World} (h : Drawn w w') (m : Nat) : Drawn w (w'.drewN m) := by obtain ⟨n, rfl⟩ := h; exact ⟨n + m, World.drewN_drewN _ _ _⟩

/-! ### Calls that only draw, behind draws -/
theorem q_add {P : Program} {f : FuncId} {args : Array Value} {w : World} {a n : Nat} {v : Value} (h : Calls P f args (w.drewN (a + n)) fun e w' => e = .returned v ∧ ∃ m, w' = (w.drewN (a + n)).drewN m) :
    Calls P f args (w.drewN (a + n)) fun e w'' => e = .returned v ∧ ∃ m, w'' = w.drewN (a + m) :=
  h.mono fun _ _ ⟨he, m, hm⟩ => ⟨he, n + m, by rw [hm, World.drewN_drewN, Nat.add_assoc]⟩

/-! ### Cuts of slices -/
/-- Where a slice begins behind a cut: 's[l:]' at l = cap stays where it was. -/
@[irreducible] def cutAt (o l cap size : Nat) : Nat := if cap = l then o else o + l * size
theorem cutAt_lt {o l cap size : Nat} (h : l < cap) : cutAt o l cap size = o + l * size := by unfold cutAt; exact if_neg (by omega)

section
variable {P : Program} (w : World) (t : TypeId) (b o len cap : Nat) (ht : P.underlying t = some (.slice (P.elem t)))
theorem sliced_at (l h s : Nat) : sliced (some ⟨b, o, none⟩) l h cap s = .slice (some ⟨b, cutAt o l cap s, none⟩) (h - l) (cap - l) := by
  unfold sliced cutAt
  by_cases hc : cap = l
  · simp [hc]
  · simp [hc, Addr.add]
include ht
@[go_sem high] theorem run_cut_lh (kl kh : IntKind) (l h : Int) (h0 : 0 ≤ l) (h1 : l ≤ h) (h2 : h ≤ cap) :
    (Instr.slice t (.slice (some ⟨b, o, none⟩) len cap) (some (.int kl l)) (some (.int kh h)) none).run P w =
      ((sizeOf (P.elem t)).run P w).andThen fun s w => .ok (.slice (some ⟨b, cutAt o l.toNat cap s, none⟩) (h.toNat - l.toNat) (cap - l.toNat)) w := by
  rw [run_slice_lh w t _ len cap ht kl kh l h h0 h1 h2]
  simp only [sliced_at b o cap]
@[go_sem high] theorem run_cut_l (kl : IntKind) (l : Int) (h0 : 0 ≤ l) (h1 : l ≤ len) :
    (Instr.slice t (.slice (some ⟨b, o, none⟩) len cap) (some (.int kl l)) none none).run P w =
      ((sizeOf (P.elem t)).run P w).andThen fun s w => .ok (.slice (some ⟨b, cutAt o l.toNat cap s, none⟩) (len - l.toNat) (cap - l.toNat)) w := by
  rw [run_slice_l w t _ len cap ht kl l h0 h1]
  simp only [sliced_at b o cap]
@[go_sem high] theorem run_cut_h (kh : IntKind) (h : Int) (h0 : 0 ≤ h) (h2 : h ≤ cap) :
    (Instr.slice t (.slice (some ⟨b, o, none⟩) len cap) none (some (.int kh h)) none).run P w =
      ((sizeOf (P.elem t)).run P w).andThen fun _ w => .ok (.slice (some ⟨b, o, none⟩) h.toNat cap) w := by
  rw [run_slice_h w t _ len cap ht kh h h0 h2]
  simp only [sliced_at b o cap]
  simp [cutAt]
end
theorem BytesAt.cut {w : World} {b o : Nat} {l : List UInt8} (h : BytesAt w b o l) (i n : Nat) {cap : Nat} (hc : l.length ≤ cap) : BytesAt w b (cutAt o i cap 1) ((l.drop i).take n) := by
  unfold cutAt
  split
  · rw [List.drop_eq_nil_of_le (by omega), List.take_nil]; exact h.nil _
  · rw [Nat.mul_one]; exact h.sub i n
theorem BytesAt.cut_l {w : World} {b o : Nat} {l : List UInt8} (h : BytesAt w b o l) (i : Nat) {cap : Nat} (hc : l.length ≤ cap) : BytesAt w b (cutAt o i cap 1) (l.drop i) := by
  have := h.cut i l.length hc
  rwa [List.take_of_length_le (by simp)] at this

/-- A region that draws its order: n reads (they leave the world alone), then one effect that waits for all of them, and what follows it. -/
theorem region_tail {P : Program} {id : Nat} {Q : Exit → Act → World → Prop} {a : Act} {w : World} {l : List Oper} (n : Nat) (hm : P.follows .mixedOrders = true) (hB : Region.lexTailB .any l.toArray n = true)
    (h : wpStill P l.toArray w.drew (fun a' => wpList P l.toArray Q (l.drop n) a' w.drew) (l.take n) a) : (Code.region id l.toArray true).wp P Q a w :=
  wp_region_still_tail n hm hB h

/-! ### copy of a string into a block -/
section
variable {P : Program} {w : World}

/-- The same between slices: the source's cells are known. (They may be the block's own.) -/
theorem wpList_copy_cells {ops : Array Oper} {rest : List Oper} {o : Oper} {a : Act} {Q : Exit → Act → World → Prop} (hgd : o.guard = none) (d s : Operand) (dT sT : TypeId)
    (ho : o.op = .call { callee := .builtin .copy, args := #[d, s], argTypes := #[dT, sT] }) (elem : TypeId) (hu : P.underlying dT = some (.slice elem)) (hsz : (P.info? elem).map (·.size) = some 1)
    (g off dLen dCap : Nat) (sp : Option Addr) (sLen sCap : Nat) (hd : a.eval d = .slice (some ⟨g, off, none⟩) dLen dCap) (hs : a.eval s = .slice sp sLen sCap) (cs : List Value) (ty : TypeId) (hg : Blk w g cs ty)
    (new : List Value) (hn : new.length = min sLen dLen) (hsrc : ∃ ad, sp = some ad ∧ ∀ j v, new[j]? = some v → w.cell? (ad.add j) = some v) (hfit : off + new.length ≤ cs.length) (h1 : ∀ v ∈ new, v.oneCell' = true)
    (h : ∀ W, Hid (Blk W g (cs.take off ++ new ++ cs.drop (off + new.length)) ty) → Keeps (In [g]) w W → wpList P ops Q rest (a.put o.dst (goInt new.length)) W) : wpList P ops Q (o :: rest) a w := by
  obtain ⟨ad, rfl, hsrc⟩ := hsrc
  refine wpList_plain hgd fun K hK => ?_
  have hrun := run_copy_row (P := P) w dT sT o.type elem g off dLen dCap ad sLen sCap cs.toArray ty new hu hsz hg hn hsrc (by simpa using hfit) h1
  unfold Oper.wp
  simp only [execOp, ho, resolve, invoke, builtin, Sem.run_bind, Sem.run_pure, Result.andThen_ok, List.map_toArray, List.map_cons, List.map_nil, hd, hs, hrun]
  exact hK _ _ (h _ (hg.row _) (Keeps.row_one _ _ _))
end

/-- The world at hand under a name. -/
theorem wp_as {P : Program} {c : Code} {Q : Exit → Act → World → Prop} {a : Act} {w : World} (h : ∀ W, W = w → c.wp P Q a W) : c.wp P Q a w := h w rfl
theorem calls_as {P : Program} {f : FuncId} {args : Array Value} {R : Ending → World → Prop} {w : World} (h : ∀ W, W = w → Calls P f args W R) : Calls P f args w R := h w rfl

end Go.Proofs.YtjbbapodcngnaaaGreatDoor
namespace Go.Proofs.YtjbbapodcngnaaaGreatDoor
open Go.RowKit

section
variable {P : Program} {ops : Array Oper} {md : Region.Mode} {C : World → Prop} {w : World}

/-- Every operation behind n waits for one from n on that stands ahead of it. -/
def afterB (md : Region.Mode) (ops : Array Oper) (n : Nat) : Bool :=
  (List.range ops.size).all fun t => decide (t ≤ n) || (List.range t).any fun j => decide (n ≤ j) && Region.waitsFor md ops t j

theorem tail_waits' {n : Nat} {listed : Array Bool} (hs : Region.sinkB md ops n = true) (hc : afterB md ops n = true) (hn : n < ops.size) (inv : HeadInv md ops n listed) :
    ∀ (d i : Nat), n - i = d → i < n → listed.getD i true = false → ∀ t, n ≤ t → t ∉ Region.ready md ops listed := by
  intro d
  induction d using Nat.strongRecOn with
  | _ d ih =>
    intro i hd hi hun t ht hr
    obtain ⟨_, ot, hot, hall⟩ := mem_ready.1 hr
    have htlt : t < ops.size := (Array.getElem?_eq_some_iff.1 hot).1
    by_cases htn : t = n
    · subst htn
      have h1 := List.all_eq_true.1 hs i (List.mem_range.2 hi)
      obtain ⟨j, hj, hj2⟩ := List.any_eq_true.1 h1
      simp only [Bool.and_eq_true, decide_eq_true_eq] at hj2
      obtain ⟨oj, hoj, e, he, hb, hon⟩ := Region.waitsFor_spec hj2.2
      have hjle : j ≤ t := by have := List.mem_range.1 hj; omega
      by_cases hjt : j = t
      · subst hjt
        have : oj = ot := Option.some.inj (hoj.symm.trans hot)
        subst this
        have h2 := hall e he hb
        rw [hon, getD_both hun] at h2
        cases h2
      · cases hl : listed.getD j false with
        | true =>
          have h2 := inv.closed j oj hoj hl e he hb
          rw [hon, getD_both hun] at h2
          cases h2
        | false =>
          have hjs : j < listed.size := by rw [inv.size]; omega
          exact ih (t - j) (by omega) j rfl (by omega) (getD_in hjs hl) t (Nat.le_refl _) hr
    · have h1 := List.all_eq_true.1 hc t (List.mem_range.2 htlt)
      simp only [Bool.or_eq_true, decide_eq_true_eq] at h1
      rcases h1 with h1 | h1
      · omega
      · obtain ⟨j, hj, hj2⟩ := List.any_eq_true.1 h1
        simp only [Bool.and_eq_true, decide_eq_true_eq] at hj2
        have hjt := List.mem_range.1 hj
        obtain ⟨o', ho', e, he, hb, hon⟩ := Region.waitsFor_spec hj2.2
        have : o' = ot := Option.some.inj (ho'.symm.trans hot)
        subst this
        have h2 := hall e he hb
        rw [hon, getD_both (inv.tail j hj2.1 (by omega))] at h2
        cases h2

def wpAnyC (P : Program) (md : Region.Mode) (ops : Array Oper) (C : World → Prop) (n : Nat) (L : Array Bool → Act → Prop) : Nat → Array Bool → Act → Prop
  | 0, listed, a => L listed a
  | f + 1, listed, a =>
    Region.ready md ops listed ≠ [] ∧ ∀ i ∈ Region.ready md ops listed, i < n ∧ qOp P ops C i (wpAnyC P md ops C n L f (listed.setIfInBounds i true)) a

theorem wpAny_of_headC {n g : Nat} {L : Array Bool → Act → Prop} {Q' : Exit → Act → World → Prop} (hL : ∀ listed a w, C w → L listed a → wpAny P md ops Q' g listed a w) :
    ∀ (f : Nat) (listed : Array Bool) (a : Act) (w : World), C w → wpAnyC P md ops C n L f listed a → wpAny P md ops Q' (f + g) listed a w
  | 0, listed, a, w, hw, h => by rw [Nat.zero_add]; exact hL _ _ _ hw h
  | f + 1, listed, a, w, hw, h => by
    rw [show f + 1 + g = (f + g) + 1 by omega]
    exact ⟨fun h0 => absurd h0 h.1, fun i hi => wpOp_of_qOp hw (fun a' w' hw' h' => wpAny_of_headC hL f _ a' w' hw' h') (h.2 i hi).2⟩

theorem wpAnyC_first {n i : Nat} {oi : Oper} {v : Value} {L : Array Bool → Act → Prop} (hi : ops[i]? = some oi) (hsel : ∀ (j : Nat) (o : Oper) cs b, ops[j]? = some o → o.op ≠ .select cs b)
    (hs : Region.sinkB md ops n = true) (hc : afterB md ops n = true) (hn : n < ops.size) (hin : i < n)
    (hdone : ∀ listed a, L listed a → ∀ j ∈ Region.ready md ops listed, n ≤ j) :
    ∀ (f : Nat) (listed : Array Bool) (a : Act), HeadInv md ops n listed →
      (∀ j oj, ops[j]? = some oj → j ≠ i → listed.getD j true = false → (∀ e ∈ oj.after, Region.binds md e = true → e.on ≠ i) → oi.apart ops oj = true) →
      i ∈ Region.ready md ops listed → YieldsIn P ops C oi v a →
      wpAnyC P md ops C n L f (listed.setIfInBounds i true) (a.put oi.dst v) → wpAnyC P md ops C n L (f + 1) listed a := by
  intro f
  induction f with
  | zero =>
    intro listed a inv _ hr hy H
    have hun := (mem_ready.1 hr).1
    refine ⟨fun h => (by rw [h] at hr; cases hr), fun j hj => ?_⟩
    have hjn : j < n := by
      rcases Nat.lt_or_ge j n with h | h
      · exact h
      · exact absurd hj (tail_waits' hs hc hn inv _ i rfl hin hun j h)
    refine ⟨hjn, ?_⟩
    by_cases hji : j = i
    · subst hji; exact hy.qOp hi H
    · have := hdone _ _ H j (ready_mono hj hji)
      omega
  | succ f ih =>
    intro listed a inv hfree hr hy H
    have hun := (mem_ready.1 hr).1
    refine ⟨fun h => (by rw [h] at hr; cases hr), fun j hj => ?_⟩
    have hjn : j < n := by
      rcases Nat.lt_or_ge j n with h | h
      · exact h
      · exact absurd hj (tail_waits' hs hc hn inv _ i rfl hin hun j h)
    refine ⟨hjn, ?_⟩
    by_cases hji : j = i
    · subst hji; exact hy.qOp hi H
    · have h1 := (H.2 j (ready_mono hj hji)).2
      obtain ⟨hjun, oj, hoj, hall⟩ := mem_ready.1 hj
      have hnot : ∀ e ∈ oj.after, Region.binds md e = true → e.on ≠ i := fun e he hb heq => by
        have h1 := hall e he hb
        rw [heq, getD_both hun] at h1
        cases h1
      have h2 := qOp_put hoj (hfree j oj hoj hji hjun hnot) (fun cs b => hsel i oi cs b hi) (fun cs b => hsel j oj cs b hoj) hy h1
      have hfree' : ∀ k ok, ops[k]? = some ok → k ≠ i → (listed.setIfInBounds j true).getD k true = false →
          (∀ e ∈ ok.after, Region.binds md e = true → e.on ≠ i) → oi.apart ops ok = true := fun k ok hk hki hun hno => by
        refine hfree k ok hk hki ?_ hno
        by_cases hjk : j = k
        · subst hjk; exact hjun
        · rw [getD_set_ne true hjk] at hun; exact hun
      refine qOp_mono (fun a' h3 => ih (listed.setIfInBounds j true) a' (inv.set hj hjn) hfree' (ready_mono hr (Ne.symm hji)) h3.1 ?_) h2
      rw [Array.setIfInBounds_comm _ _ hji]
      exact h3.2

/-- What may stand behind the effect: moves, assignments, parts of a tuple. -/
def pureOp (o : Oper) : Bool :=
  match o.op with
  | .move _ | .assign _ | .extract _ _ => o.guard.isNone
  | _ => false

theorem run_pure_op {o : Oper} (a : Act) (h : pureOp o = true) : (∃ v, execOp a.eval o = Sem.pure (.value v)) ∨ ∃ s, execOp a.eval o = Sem.halt (.stuck s) := by
  unfold pureOp at h
  split at h
  · rename_i x hx; exact .inl ⟨_, by simp only [execOp, hx]; rfl⟩
  · rename_i x hx; exact .inl ⟨_, by simp only [execOp, hx]; rfl⟩
  · rename_i x i hx
    simp only [execOp, hx]
    cases hv : a.eval x
    case tuple vs =>
      cases hq : vs[i]? with
      | none => exact .inr ⟨_, by simp only [Instr.extract, hq]; rfl⟩
      | some v => exact .inl ⟨v, by simp only [Instr.extract, hq]; rfl⟩
    all_goals exact .inr ⟨_, rfl⟩
  · cases h

theorem not_asks_pure {o : Oper} {a : Act} (h : pureOp o = true) : ¬ o.asks P a w := by
  intro hk
  have hm := hk.1
  rcases run_pure_op a h with ⟨v, e⟩ | ⟨s, e⟩ <;> rw [e] at hm <;> simp [Sem.runT] at hm

theorem still_of_pure {o : Oper} {a : Act} {K : Act → World → Prop} {Q : Exit → Act → World → Prop} (h : pureOp o = true) (hw : o.wp P a w K Q) : o.still P a w (fun a' => K a' w) := by
  unfold Oper.wp at hw
  unfold Oper.still
  rcases run_pure_op a h with ⟨v, e⟩ | ⟨s, e⟩ <;> rw [e] at hw ⊢
  · exact ⟨rfl, hw⟩
  · exact hw.elim

theorem wpStill_of_pure {Q : Exit → Act → World → Prop} : ∀ (l : List Oper) (a : Act), l.all pureOp = true → wpList P ops Q l a w → wpStill P ops w (fun a' => Q .normal a' w) l a
  | [], a, _, h => h
  | o :: l, a, hp, h => by
    simp only [List.all_cons, Bool.and_eq_true] at hp
    unfold wpList at h
    unfold wpStill
    split
    · rename_i hw
      rw [if_pos hw] at h
      rcases h with h | h
      · exact Oper.still_mono (fun a' h' => wpStill_of_pure l a' hp.2 h') (still_of_pure hp.1 h)
      · exact absurd h.1 (not_asks_pure hp.1)
    · rename_i hw
      rw [if_neg hw] at h
      exact wpStill_of_pure l _ hp.2 h

/-- The heads in the text's order, then n alone, then the rest in the text's order. -/
def lexHeadM (md : Region.Mode) (ops : Array Oper) (g : Nat) : Nat → Nat → Array Bool → Bool
  | 0, k, listed => decide (Region.ready md ops listed = [k]) && Region.lexFrom md ops g (k + 1) (listed.setIfInBounds k true)
  | f + 1, k, listed => (Region.ready md ops listed).contains k && Region.free md ops listed k && lexHeadM md ops g f (k + 1) (listed.setIfInBounds k true)

def lexMidB (md : Region.Mode) (ops : Array Oper) (n : Nat) : Bool :=
  Region.noSelect ops && decide (n < ops.size) && Region.sinkB md ops n && afterB md ops n && (ops.toList.drop (n + 1)).all pureOp && lexHeadM md ops (ops.size - n - 1) n 0 (Array.replicate ops.size false)

/-- What stands when the heads are through. -/
def MidAt (md : Region.Mode) (ops : Array Oper) (n g : Nat) (listed : Array Bool) : Prop :=
  Region.ready md ops listed = [n] ∧ Region.lexFrom md ops g (n + 1) (listed.setIfInBounds n true) = true

theorem wpAnyC_lex {n g : Nat} {Lq : Act → Prop} (hsel : Region.noSelect ops = true) (hs : Region.sinkB md ops n = true) (hc : afterB md ops n = true) (hn : n < ops.size) :
    ∀ (l : List Oper) (k : Nat) (listed : Array Bool) (a : Act), (∀ j, j < l.length → l[j]? = ops[k + j]?) → k + l.length = n → HeadInv md ops n listed →
    lexHeadM md ops g l.length k listed = true → wpQuiet P ops C Lq l a →
    wpAnyC P md ops C n (fun listed' a' => MidAt md ops n g listed' ∧ Lq a') l.length listed a
  | [], k, listed, a, _, hk, _, hB, h => by
    have : k = n := by simpa using hk
    subst this
    simp only [List.length_nil, lexHeadM, Bool.and_eq_true, decide_eq_true_eq] at hB
    exact ⟨hB, h⟩
  | o :: l, k, listed, a, hl, hk, inv, hB, h => by
    have h0 : ops[k]? = some o := by simpa using (hl 0 (by simp)).symm
    simp only [List.length_cons, lexHeadM, Bool.and_eq_true] at hB
    obtain ⟨⟨hr, hf⟩, hB'⟩ := hB
    have hkn : k < n := by simp only [List.length_cons] at hk; omega
    have hr' : k ∈ Region.ready md ops listed := by simpa using hr
    have hst : qOp P ops C k (wpQuiet P ops C Lq l) a := by unfold qOp; simp only [h0]; exact h
    obtain ⟨v, hy, hK⟩ := yieldsIn_of_qOp h0 hst
    exact wpAnyC_first h0 (Region.noSelect_spec hsel) hs hc hn hkn (fun listed' a' hL j hj => by rw [hL.1.1] at hj; simp at hj; omega) l.length listed a inv (Region.free_spec h0 hf) hr' hy
      (wpAnyC_lex hsel hs hc hn l (k + 1) _ _ (fun j hj => by have := hl (j + 1) (by simp; omega); simpa [Nat.add_assoc, Nat.add_comm 1 j] using this) (by simp only [List.length_cons] at hk; omega) (inv.set hr' hkn) hB' hK)

theorem wpAny_mid {n g : Nat} {Q' : Exit → Act → World → Prop} (hsel : Region.noSelect ops = true) (l : List Oper) (hg : l.length = g) (hl : ∀ j, l[j]? = ops[n + 1 + j]?) {o : Oper} (ho : ops[n]? = some o) (hp : l.all pureOp = true)
    (listed : Array Bool) (a : Act) (h1 : MidAt md ops n g listed) (h : wpList P ops Q' (o :: l) a w) : wpAny P md ops Q' (g + 1) listed a w := by
  obtain ⟨hr, hlex⟩ := h1
  refine ⟨fun h0 => (by rw [hr] at h0; cases h0), fun i hi => ?_⟩
  rw [hr] at hi
  obtain rfl : i = n := by simpa using hi
  have hw : wpOp P ops Q' i (wpList P ops Q' l) a w := by unfold wpOp; simp only [ho]; exact h
  refine wpOp_mono (fun a' w' h' => ?_) hw
  have h2 := wpAnyS_lex (md := md) hsel l (i + 1) (listed.setIfInBounds i true) a' hl (by rw [hg]; exact hlex) (wpStill_of_pure l a' hp h')
  have h3 := wpAny_of_still (Q' := Q') (fun _ h => h) _ _ _ h2
  rwa [hg] at h3

/-- A region that draws: n operations that look, in a class of worlds, one effect, moves behind it. -/
theorem region_class {id : Nat} {Q : Exit → Act → World → Prop} {a : Act} {l : List Oper} (n : Nat) (C : World → Prop) (hm : P.follows .mixedOrders = true) (hB : lexMidB .any l.toArray n = true) (hC : C w.drew)
    (h : wpQuiet P l.toArray C (fun a' => ∀ w', C w' → wpList P l.toArray Q (l.drop n) a' w') (l.take n) a) : (Code.region id l.toArray true).wp P Q a w := by
  simp only [lexMidB, Bool.and_eq_true, decide_eq_true_eq] at hB
  obtain ⟨⟨⟨⟨⟨hsel, hn⟩, hs⟩, hc⟩, hp⟩, hlex⟩ := hB
  have hn' : n < l.length := by simpa using hn
  have htl : (l.take n).length = n := by simp; omega
  have inv0 : HeadInv .any l.toArray n (Array.replicate l.toArray.size false) :=
    ⟨by simp, fun j oj _ hl => (by rw [getD_replicate_false] at hl; cases hl), fun t _ ht => getD_in (by simpa using ht) (getD_replicate_false _ _)⟩
  have H := wpAnyC_lex (md := .any) (g := l.toArray.size - n - 1) hsel hs hc hn (l.take n) 0 _ a (fun j hj => by
    have hj' : j < n := by rw [htl] at hj; exact hj
    simp [hj']) (by simpa using htl) inv0 (by rw [htl]; exact hlex) h
  refine wp_region_any hm ?_
  have hdrop : l.drop n = l[n] :: l.drop (n + 1) := List.drop_eq_getElem_cons hn'
  have := wpAny_of_headC (Q' := Q) (g := l.toArray.size - n - 1 + 1) (fun listed a' w' hw' hL => by
    have hw := hL.2 w' hw'
    rw [hdrop] at hw
    exact wpAny_mid (md := .any) hsel (l.drop (n + 1)) (by simp; omega) (fun j => by simp [List.getElem?_drop]) (by simp [hn']) hp listed a' hL.1 hw) _ _ _ _ hC H
  rw [htl, show n + (l.toArray.size - n - 1 + 1) = l.toArray.size by simp; omega] at this
  exact this

/-- The same where the looks leave the world as it is but for draws. -/
theorem region_mid {id : Nat} {Q : Exit → Act → World → Prop} {a : Act} {l : List Oper} (n : Nat) (hm : P.follows .mixedOrders = true) (hB : lexMidB .any l.toArray n = true)
    (h : wpQuiet P l.toArray (fun w' => ∃ n, w' = w.drewN n) (fun a' => ∀ w', (∃ n, w' = w.drewN n) → wpList P l.toArray Q (l.drop n) a' w') (l.take n) a) : (Code.region id l.toArray true).wp P Q a w :=
  region_class n _ hm hB ⟨1, rfl⟩ h
end

end Go.Proofs.YtjbbapodcngnaaaGreatDoor
namespace Go.Proofs.YtjbbapodcngnaaaGreatDoor
open Go.RowKit

/-- The package variables that are read: below N. -/
structure Laid (N : Nat) (ea : Addr) (w : World) : Prop where
  hN : 10 ≤ N
  eof : w.cell? ⟨0, 0, none⟩ = some (.iface 203 (.pointer (some ea)))
  eb : ea.block < N
  ec : ∃ ca ta, w.heap[ea.block]? = some (.cells ca ta (0, 0))
  full : ∃ fa : Addr, w.cell? ⟨3, 0, none⟩ = some (.iface 203 (.pointer (some fa))) ∧ fa.block < N ∧ (∃ ca ta, w.heap[fa.block]? = some (.cells ca ta (0, 0))) ∧ ea ≠ fa

theorem lt_of_cells {w : World} {k : Nat} {ca : Array Value} {ta : TypeId} {f : Nat × Nat} (h : w.heap[k]? = some (.cells ca ta f)) : k < w.heap.size := (Array.getElem?_eq_some_iff.1 h).1

theorem Laid.keep {N : Nat} {ea : Addr} {w w' : World} {S : Nat → Prop} (h : Laid N ea w) (k : Keeps S w w') (hS : ∀ x, S x → N ≤ x) : Laid N ea w' := by
  have hN := h.hN
  obtain ⟨ca, ta, hc⟩ := h.ec
  have heb := h.eb
  obtain ⟨fa, h1, h2, ⟨cb, tb, h3⟩, h4⟩ := h.full
  refine ⟨hN, k.cell h.eof (fun hx => by have := hS _ hx; simp at this; omega), heb, ⟨ca, ta, ?_⟩, fa, k.cell h1 (fun hx => by have := hS _ hx; simp at this; omega), h2, ⟨cb, tb, ?_⟩, h4⟩
  · exact (k.block _ (lt_of_cells hc) (fun hx => by have := hS _ hx; omega)).trans hc
  · exact (k.block _ (lt_of_cells h3) (fun hx => by have := hS _ hx; omega)).trans h3
theorem Laid.keep_no {N : Nat} {ea : Addr} {w w' : World} (h : Laid N ea w) (k : Keeps No w w') : Laid N ea w' := h.keep k (fun _ h => h.elim)

section
variable {w : World} {b g s : Nat} {src : ByteArray} {r q i : Nat} {err : Value} {lb lr p : Int} {data : List UInt8}
end

/-- readErr hands the error over, and forgets it. -/
theorem readErr_any (b : Nat) (cs : List Value) (err : Value) (w : World) (hb : Blk w b cs 201) (h4 : cs[4]? = some err) :
    Calls Tryz.prog 140 #[.pointer (some ⟨b, 0, none⟩)] w fun e w' => e = .returned err ∧ w.setCell ⟨b, 4, none⟩ .nilIface = w' := by
  have h := (hb.cell 4).trans h4
  have f := hb.frozen 4
  go_enter Tryz.func140, Tryz.ntmps140
  go_wp2
  go_ret
  exact ⟨rfl, rfl⟩

theorem w64_u8 (c : UInt8) : wrap64 (c.toNat : Int) = c.toNat := by have := c.toNat_lt; unfold wrap64; omega

end Go.Proofs.YtjbbapodcngnaaaGreatDoor
namespace Go.Proofs.YtjbbapodcngnaaaGreatDoor.Hdr

/-- A line without the return at its end. -/
def chomp (l : List UInt8) : List UInt8 := if l.getLast? = some 13 then l.dropLast else l

/-- What stands ahead of the first line feed. -/
def upto (c : List UInt8) : List UInt8 := c.takeWhile (· != 10)
def behind (c : List UInt8) : List UInt8 := c.dropWhile (· != 10)

/-- The first line, as it is read, and what stands behind it. -/
def line1 (c : List UInt8) : List UInt8 × List UInt8 :=
  match behind c with
  | [] => (upto c, [])
  | _ :: r => (chomp (upto c), r)

theorem split (c : List UInt8) : c = upto c ++ behind c := (List.takeWhile_append_dropWhile (p := (· != 10)) (l := c)).symm
theorem upto_no (c : List UInt8) : (10 : UInt8) ∉ upto c := by
  induction c with
  | nil => simp [upto]
  | cons x c ih =>
    unfold upto at *
    rw [List.takeWhile_cons]
    split
    · rename_i h
      simp only [List.mem_cons, not_or]
      exact ⟨fun e => by subst e; simp at h, ih⟩
    · simp
theorem behind_head {c r : List UInt8} {x : UInt8} (h : behind c = x :: r) : x = 10 := by
  induction c with
  | nil => simp [behind] at h
  | cons y c ih =>
    unfold behind at *
    rw [List.dropWhile_cons] at h
    split at h
    · exact ih h
    · rename_i hy
      simp only [List.cons.injEq] at h
      rw [← h.1]
      simpa using hy
theorem line1_nl {c r : List UInt8} {x : UInt8} (h : behind c = x :: r) : line1 c = (chomp (upto c), r) := by unfold line1; rw [h]
theorem line1_end {c : List UInt8} (h : behind c = []) : line1 c = (c, []) := by
  have h2 := split c
  rw [h, List.append_nil] at h2
  unfold line1; rw [h, ← h2]

/-- No line of it is as long as a buffer. -/
def Short (c : List UInt8) : Prop := ∀ b, b <:+ c → (upto b).length < 4095
theorem Short.self {c : List UInt8} (h : Short c) : (upto c).length < 4095 := h c (List.suffix_refl c)
theorem Short.tail {c d : List UInt8} (h : Short c) (hd : d <:+ c) : Short d := fun b hb => h b (hb.trans hd)
theorem line1_suffix (c : List UInt8) : (line1 c).2 <:+ c := by
  unfold line1
  cases h : behind c with
  | nil => exact List.nil_suffix
  | cons x r => exact ⟨upto c ++ [x], by rw [List.append_assoc, List.singleton_append, ← h, ← split]⟩
theorem Short.line {c : List UInt8} (h : Short c) : Short (line1 c).2 := h.tail (line1_suffix c)
theorem line1_lt {c : List UInt8} (h : c ≠ []) : (line1 c).2.length < c.length := by
  unfold line1
  cases hb : behind c with
  | nil => simp; exact List.length_pos_iff.2 h
  | cons x r =>
    have := congrArg List.length (split c)
    rw [hb] at this
    simp at this ⊢
    omega

/-- A blank or a tab. -/
def sp (c : UInt8) : Bool := c == 32 || c == 9

def spHead : List UInt8 → Bool
  | [] => false
  | x :: _ => sp x
theorem spHead_ne {c : List UInt8} (h : spHead c = true) : c ≠ [] := by rintro rfl; cases h

/-- The lines that go on with a field, each with CR LF, and what stands behind them. -/
def conts (c : List UInt8) : List UInt8 × List UInt8 :=
  if h : spHead c = true then
    let r := conts (line1 c).2
    ((line1 c).1 ++ [13, 10] ++ r.1, r.2)
  else ([], c)
termination_by c.length
decreasing_by exact line1_lt (spHead_ne h)

theorem conts_yes {c : List UInt8} (h : spHead c = true) : conts c = ((line1 c).1 ++ [13, 10] ++ (conts (line1 c).2).1, (conts (line1 c).2).2) := by rw [conts, dif_pos h]
theorem conts_no {c : List UInt8} (h : spHead c = false) : conts c = ([], c) := by rw [conts, dif_neg (by rw [h]; decide)]

/-- A field's lines, each with CR LF; nothing where the first line is empty; and what stands behind. -/
def kv (c : List UInt8) : List UInt8 × List UInt8 :=
  if (line1 c).1 = [] then ([], (line1 c).2) else ((line1 c).1 ++ [13, 10] ++ (conts (line1 c).2).1, (conts (line1 c).2).2)

theorem line1_len (c : List UInt8) : (line1 c).1.length + (line1 c).2.length ≤ c.length := by
  have := congrArg List.length (split c)
  unfold line1
  cases hb : behind c with
  | nil => rw [hb] at this; simp at this ⊢; omega
  | cons x r =>
    rw [hb] at this
    simp only [chomp]
    simp at this
    split <;> simp <;> omega

theorem conts_len (c : List UInt8) : (conts c).1.length ≤ 3 * c.length ∧ (conts c).2.length ≤ c.length := by
  induction hn : c.length using Nat.strongRecOn generalizing c with
  | _ n ih =>
    subst hn
    by_cases h : spHead c = true
    · rw [conts_yes h]
      have h1 := line1_lt (spHead_ne h)
      have h2 := line1_len c
      have h3 := ih _ h1 (line1 c).2 rfl
      simp
      omega
    · rw [conts_no (by simpa using h)]
      simp
theorem kv_len (c : List UInt8) : (kv c).1.length ≤ 3 * c.length + 2 ∧ (kv c).2.length ≤ c.length := by
  unfold kv
  have h1 := line1_len c
  have h2 := conts_len (line1 c).2
  split
  · simp; omega
  · simp; omega

theorem conts_suffix (c : List UInt8) : (conts c).2 <:+ c := by
  induction hn : c.length using Nat.strongRecOn generalizing c with
  | _ n ih =>
    subst hn
    by_cases h : spHead c = true
    · rw [conts_yes h]
      exact (ih _ (line1_lt (spHead_ne h)) (line1 c).2 rfl).trans (line1_suffix c)
    · rw [conts_no (by simpa using h)]
      exact List.suffix_refl c
theorem kv_suffix (c : List UInt8) : (kv c).2 <:+ c := by
  unfold kv
  split
  · exact line1_suffix c
  · exact (conts_suffix _).trans (line1_suffix c)

end Go.Proofs.YtjbbapodcngnaaaGreatDoor.Hdr
namespace Go.Proofs.YtjbbapodcngnaaaGreatDoor
open Go.RowKit Hdr

/-! ### bytes.IndexByte -/
theorem ixb_none {l : List UInt8} {c : UInt8} (h : c ∉ l) : Lib.indexByte l c = -1 := by
  induction l with
  | nil => rfl
  | cons x l ih =>
    simp only [List.mem_cons, not_or] at h
    have hx : (x == c) = false := by simpa using (fun e => h.1 e.symm)
    simp [Lib.indexByte, hx, ih h.2]
theorem ixb_some {l m : List UInt8} {c : UInt8} (h : c ∉ l) : Lib.indexByte (l ++ c :: m) c = l.length := by
  induction l with
  | nil => simp [Lib.indexByte]
  | cons x l ih =>
    simp only [List.mem_cons, not_or] at h
    have hx : (x == c) = false := by simpa using (fun e => h.1 e.symm)
    have h1 : ((l.length : Int) == -1) = false := by simp
    simp [Lib.indexByte, hx, ih h.2, h1]

theorem bytesOf_u8 (l : List UInt8) : Lib.bytesOf (l.map fun c => (c.toNat : Int)) = l := by
  simp only [Lib.bytesOf, List.map_map]
  rw [List.map_congr_left (g := id)]
  · simp
  · intro c _; simp

theorem getD_u8 (l : List UInt8) (i : Nat) (h : i < l.length) : (l.map fun c => (c.toNat : Int)).getD i 0 = (l[i].toNat : Int) := by
  simp [List.getD_eq_getElem?_getD, h]

set_option maxRecDepth 100000 in
theorem indexByte_any (b o cap : Nat) (l : List UInt8) (c : UInt8) (w : World) (h : BytesAt w b o l) :
    Calls Tryz.prog 98 #[.slice (some ⟨b, o, none⟩) l.length cap, .int .u8 c.toNat] w fun e w' => e = .returned (.int .i64 (Lib.indexByte l c)) ∧ w' = w := by
  have hr := Lib.run_indexByteSlice (P := Tryz.prog) w b o l.length cap (l.map fun c => (c.toNat : Int)) (by simp) (fun i hi => by rw [getD_u8 l i hi]; exact h.cell hi) c.toNat
  rw [bytesOf_u8] at hr
  simp only [Int.toNat_natCast, Nat.toUInt8_eq, UInt8.ofNat_toNat] at hr
  go_enter Tryz.func98, Tryz.ntmps98
  go_wp2
  rw [run_callFunc_extern Tryz.func134 (by kernel_rfl) (by kernel_rfl) (by kernel_rfl) (e := Extern.BytealgIndexByte.indexByte) (by kernel_rfl), hr]
  simp only [Result.andThen]
  rw [Oper.upon_value]
  go_wp2
  go_ret
  exact ⟨rfl, rfl⟩

/-! ### blanks -/
theorem isSpace_any (c : UInt8) (w : World) :
    Calls Tryz.prog 103 #[.int .u8 c.toNat] w fun e w' => e = .returned (.bool (sp c)) ∧ w' = w := by
  by_cases h1 : c = 32
  · subst h1
    have e : ((32 : UInt8).toNat : Int) = 32 := rfl
    rw [e]
    go_enter Tryz.func103, Tryz.ntmps103
    go_wp2
    go_ret
    exact ⟨rfl, rfl⟩
  · by_cases h2 : c = 9
    · subst h2
      have e : ((9 : UInt8).toNat : Int) = 9 := rfl
      rw [e]
      go_enter Tryz.func103, Tryz.ntmps103
      go_wp2
      go_ret
      exact ⟨rfl, rfl⟩
    · have g : sp c = false := by simp [sp, h1, h2]
      have h1' : c.toNat ≠ 32 := fun e => h1 (UInt8.toNat.inj e)
      have h2' : c.toNat ≠ 9 := fun e => h2 (UInt8.toNat.inj e)
      have e1 : ((c.toNat : Int) == 32) = false := by simp; omega
      have e2 : ((c.toNat : Int) == 9) = false := by simp; omega
      have G := Lib.hid g
      clear g
      go_enter Tryz.func103, Tryz.ntmps103
      go_wp2
      go_ret
      exact ⟨by rw [G.out]; rfl, rfl⟩

/-! ### UnreadByte, hasContinuationLine -/

end Go.Proofs.YtjbbapodcngnaaaGreatDoor
