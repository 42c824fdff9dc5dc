/- Words of our own: what a call keeps of memory ('Keeps'), a block that is known whole ('Blk'), bytes in a block ('BytesAt'). Nothing of the program is named here. -/
import Derived.WalkKit
import Derived.WalkLawsBesides
import Derived.WalkSpells
import Derived.Deep.QuietTactic
import Derived.BigQuiet
import Derived.Lib.Hide
import Derived.StillTailTactics
namespace Go.Proofs.YtjbbapodcngnaaaDoor
open Go.RowKit

/-- Behind w' all blocks of w stand as they stood, but for those in S; the streams are as they were. -/
structure Keeps (S : Nat → Prop) (w w' : World) : Prop where
  os : w'.os = w.os
  tape : w'.tape = w.tape
  output : w'.output = w.output
  size : w.heap.size ≤ w'.heap.size
  block : ∀ k, k < w.heap.size → ¬ S k → w'.heap[k]? = w.heap[k]?

/-- No block. -/
def No : Nat → Prop := fun _ => False
/-- These blocks. -/
def In (l : List Nat) : Nat → Prop := fun k => k ∈ l

theorem Keeps.refl (S : Nat → Prop) (w : World) : Keeps S w w := ⟨rfl, rfl, rfl, Nat.le_refl _, fun _ _ _ => rfl⟩
theorem Keeps.trans {S T : Nat → Prop} {a b c : World} (h : Keeps S a b) (k : Keeps T b c) (hT : ∀ i, i < a.heap.size → T i → S i) : Keeps S a c :=
  ⟨k.os.trans h.os, k.tape.trans h.tape, k.output.trans h.output, Nat.le_trans h.size k.size,
    fun i hi hS => (k.block i (Nat.lt_of_lt_of_le hi h.size) (fun ht => hS (hT i hi ht))).trans (h.block i hi hS)⟩
theorem Keeps.trans' {S : Nat → Prop} {a b c : World} (h : Keeps S a b) (k : Keeps S b c) : Keeps S a c := h.trans k (fun _ _ h => h)
theorem Keeps.mono {S T : Nat → Prop} {a b : World} (h : Keeps S a b) (hT : ∀ i, i < a.heap.size → S i → T i) : Keeps T a b :=
  ⟨h.os, h.tape, h.output, h.size, fun i hi ht => h.block i hi (fun hs => ht (hT i hi hs))⟩
theorem Keeps.of_no {T : Nat → Prop} {a b : World} (h : Keeps No a b) : Keeps T a b := h.mono (fun _ _ h => h.elim)
theorem Keeps.trans_no {S : Nat → Prop} {a b c : World} (h : Keeps S a b) (k : Keeps No b c) : Keeps S a c := h.trans k (fun _ _ h => h.elim)
theorem Keeps.drew {S : Nat → Prop} {a b : World} (h : Keeps S a b) : Keeps S a b.drew := ⟨h.os, h.tape, h.output, h.size, h.block⟩
theorem Keeps.drewN {S : Nat → Prop} {a b : World} (h : Keeps S a b) (n : Nat) : Keeps S a (b.drewN n) := ⟨h.os, h.tape, h.output, h.size, h.block⟩
theorem Keeps.drewN_left {S : Nat → Prop} {a b : World} {n : Nat} (h : Keeps S (a.drewN n) b) : Keeps S a b := ⟨h.os, h.tape, h.output, h.size, h.block⟩
theorem Keeps.alloc {S : Nat → Prop} {a b : World} (h : Keeps S a b) (o : Obj) : Keeps S a (b.alloc o) :=
  ⟨h.os, h.tape, h.output, by have := h.size; simp; omega, fun i hi hS => (Below.heap_alloc b o i (Nat.lt_of_lt_of_le hi h.size)).trans (h.block i hi hS)⟩
theorem Keeps.setCell {S : Nat → Prop} {a b : World} (h : Keeps S a b) {p : Addr} (hp : S p.block ∨ a.heap.size ≤ p.block) (u : Value) : Keeps S a (b.setCell p u) :=
  ⟨h.os, h.tape, h.output, by have := h.size; simpa using this, fun i hi hS => (Below.heap_setCell b p u i (fun e => by subst e; rcases hp with h | h; exact hS h; omega)).trans (h.block i hi hS)⟩
theorem Keeps.setRow {S : Nat → Prop} {a b : World} (h : Keeps S a b) {g : Nat} (hp : S g ∨ a.heap.size ≤ g) (cs : Array Value) : Keeps S a (b.setRow g cs) :=
  ⟨h.os, h.tape, h.output, by have := h.size; simpa using this, fun i hi hS => (setRow_other b g i cs (fun e => by subst e; rcases hp with h | h; exact hS h; omega)).trans (h.block i hi hS)⟩
theorem Keeps.grown {S : Nat → Prop} {a b c : World} {row : Option Nat} (h : Keeps S a b) (hg : b.grownBy c row) (hr : ∀ k, row = some k → S k ∨ a.heap.size ≤ k) : Keeps S a c :=
  ⟨hg.os.trans h.os, hg.tape.trans h.tape, hg.output.trans h.output, Nat.le_trans h.size hg.size,
    fun i hi hS => (hg.block i (Nat.lt_of_lt_of_le hi h.size) (fun e => by rcases hr i e.symm with h | h; exact hS h; omega)).trans (h.block i hi hS)⟩
theorem Keeps.row_one (w : World) (g : Nat) (cs : Array Value) : Keeps (In [g]) w (w.setRow g cs) := (Keeps.refl _ w).setRow (.inl (List.mem_singleton.2 rfl)) cs
theorem Keeps.cell_one (w : World) (p : Addr) (v : Value) : Keeps (In [p.block]) w (w.setCell p v) := (Keeps.refl _ w).setCell (.inl (List.mem_singleton.2 rfl)) v
theorem Keeps.of_below {S : Nat → Prop} {a b : World} (h : Below a.heap.size a b) : Keeps S a b := ⟨h.os, h.tape, h.output, h.size, fun k hk _ => h.block k hk⟩
theorem Keeps.below {a b : World} (h : Keeps No a b) : Below a.heap.size a b := ⟨h.os, h.tape, h.output, h.size, fun k hk => h.block k hk (fun h => h)⟩
theorem Keeps.cell {S : Nat → Prop} {a b : World} (h : Keeps S a b) {p : Addr} {v : Value} (hc : a.cell? p = some v) (hS : ¬ S p.block) : b.cell? p = some v :=
  (World.cell?_of_block (h.block p.block (World.block_lt_of_cell? a p hc) hS)).trans hc

/-- Block b holds these cells, of this type, and nothing of it is frozen. -/
def Blk (w : World) (b : Nat) (cs : List Value) (t : TypeId) : Prop := w.heap[b]? = some (.cells cs.toArray t (0, 0))

theorem Blk.lt {w : World} {b : Nat} {cs : List Value} {t : TypeId} (h : Blk w b cs t) : b < w.heap.size := (Array.getElem?_eq_some_iff.1 h).1
theorem Blk.cell {w : World} {b : Nat} {cs : List Value} {t : TypeId} (h : Blk w b cs t) (i : Nat) : w.cell? ⟨b, i, none⟩ = cs[i]? := by
  unfold Blk at h; simp [World.cell?, h]
theorem Blk.frozen {w : World} {b : Nat} {cs : List Value} {t : TypeId} (h : Blk w b cs t) (i : Nat) : w.frozen? ⟨b, i, none⟩ = false := by
  unfold Blk at h; simp [World.frozen?, h]
theorem Blk.keep {S : Nat → Prop} {w w' : World} {b : Nat} {cs : List Value} {t : TypeId} (h : Blk w b cs t) (k : Keeps S w w') (hS : ¬ S b) : Blk w' b cs t :=
  (k.block b h.lt hS).trans h
theorem Blk.keep_no {w w' : World} {b : Nat} {cs : List Value} {t : TypeId} (h : Blk w b cs t) (k : Keeps No w w') : Blk w' b cs t := h.keep k (fun h => h)
theorem Blk.alloc {w : World} {b : Nat} {cs : List Value} {t : TypeId} (h : Blk w b cs t) (o : Obj) : Blk (w.alloc o) b cs t := (Below.heap_alloc w o b h.lt).trans h
theorem Blk.drew {w : World} {b : Nat} {cs : List Value} {t : TypeId} (h : Blk w b cs t) : Blk w.drew b cs t := h
theorem Blk.drewN {w : World} {b : Nat} {cs : List Value} {t : TypeId} (h : Blk w b cs t) (n : Nat) : Blk (w.drewN n) b cs t := h
theorem Blk.set {w : World} {b : Nat} {cs : List Value} {t : TypeId} (h : Blk w b cs t) (i : Nat) (v : Value) : Blk (w.setCell ⟨b, i, none⟩ v) b (cs.set i v) t := by
  unfold Blk at *
  simp only [World.setCell, Array.getElem?_modify, if_true, h, Option.map_some]
  simp
theorem Blk.set_same {w : World} {b : Nat} {cs : List Value} {t : TypeId} (h : Blk w b cs t) {i : Nat} {v : Value} (hv : cs[i]? = some v) : Blk (w.setCell ⟨b, i, none⟩ v) b cs t := by
  have h2 := h.set i v
  have e : cs.set i v = cs := by
    apply List.ext_getElem?
    intro j
    rw [List.getElem?_set]
    by_cases hj : i = j
    · subst hj
      rw [if_pos rfl]
      rw [hv]
      have := (List.getElem?_eq_some_iff.1 hv).1
      simp [this]
    · rw [if_neg hj]
  rwa [e] at h2
theorem Blk.set_other {w : World} {b : Nat} {cs : List Value} {t : TypeId} (h : Blk w b cs t) {p : Addr} (hp : p.block ≠ b) (v : Value) : Blk (w.setCell p v) b cs t :=
  (Below.heap_setCell w p v b (Ne.symm hp)).trans h
theorem Blk.row {w : World} {b : Nat} {cs : List Value} {t : TypeId} (h : Blk w b cs t) (cs' : List Value) : Blk (w.setRow b cs'.toArray) b cs' t := setRow_heap w b _ _ t _ h
theorem Blk.row_other {w : World} {b : Nat} {cs : List Value} {t : TypeId} (h : Blk w b cs t) {g : Nat} (hg : g ≠ b) (cs' : Array Value) : Blk (w.setRow g cs') b cs t :=
  (setRow_other w g b cs' (Ne.symm hg)).trans h
theorem Blk.new (w : World) (cs : List Value) (t : TypeId) : Blk (w.alloc (.cells cs.toArray t)) w.heap.size cs t := heap_alloc_new w _
theorem Blk.to {w : World} {b : Nat} {cs cs' : List Value} {t : TypeId} (h : Blk w b cs t) (e : cs = cs') : Blk w b cs' t := e ▸ h
theorem Blk.ne {w : World} {b b' : Nat} {cs cs' : List Value} {t t' : TypeId} (h : Blk w b cs t) (h' : Blk w b' cs' t') (hne : t ≠ t') : b ≠ b' := by
  rintro rfl
  unfold Blk at h h'
  rw [h] at h'
  injection h' with h'
  injection h' with h1 h2
  exact hne h2

theorem nil_or_snoc {α : Type} (l : List α) : l = [] ∨ ∃ m x, l = m ++ [x] := by
  rcases List.eq_nil_or_concat l with h | ⟨m, x, h⟩
  · exact .inl h
  · exact .inr ⟨m, x, by rw [h, List.concat_eq_append]⟩

/-- A byte as a cell. -/
def byt (c : UInt8) : Value := .int .u8 c.toNat
/-- The cells of some bytes. -/
def u8s (l : List UInt8) : List Value := l.map byt
@[simp] theorem u8s_length (l : List UInt8) : (u8s l).length = l.length := by simp [u8s]
@[simp] theorem u8s_append (l m : List UInt8) : u8s (l ++ m) = u8s l ++ u8s m := by simp [u8s]
@[simp] theorem u8s_nil : u8s [] = [] := rfl
theorem u8s_get (l : List UInt8) (i : Nat) : (u8s l)[i]? = l[i]?.map byt := by simp [u8s]
theorem u8s_take (l : List UInt8) (i : Nat) : u8s (l.take i) = (u8s l).take i := by simp [u8s, List.map_take]
theorem u8s_drop (l : List UInt8) (i : Nat) : u8s (l.drop i) = (u8s l).drop i := by simp [u8s, List.map_drop]
theorem u8s_one (l : List UInt8) : ∀ v ∈ u8s l, v.oneCell' = true := by
  intro v hv
  simp only [u8s, List.mem_map] at hv
  obtain ⟨c, _, rfl⟩ := hv
  rfl

theorem extract_end (s : ByteArray) (i : Nat) : (s.extract i s.size).data.toList = s.data.toList.drop i := by
  have h : s.data.toList.length = s.size := rfl
  rw [ByteArray.data_extract, Array.toList_extract, List.extract_eq_take_drop, List.take_of_length_le]
  rw [List.length_drop, h]
  exact Nat.le_refl _
theorem extract_mid (s : ByteArray) (i j : Nat) : (s.extract i j).data.toList = (s.data.toList.drop i).take (j - i) := by
  rw [ByteArray.data_extract, Array.toList_extract, List.extract_eq_take_drop]
theorem str_size (s : ByteArray) : s.data.toList.length = s.size := rfl

/-- From place o of block b on stand these bytes. -/
def BytesAt (w : World) (b o : Nat) (l : List UInt8) : Prop := ∃ cs t f, w.heap[b]? = some (.cells cs t f) ∧ (cs.toList.drop o).take l.length = u8s l

theorem BytesAt.lt {w : World} {b o : Nat} {l : List UInt8} (h : BytesAt w b o l) : b < w.heap.size := by
  obtain ⟨cs, t, f, h, _⟩ := h
  exact (Array.getElem?_eq_some_iff.1 h).1
theorem BytesAt.keep {S : Nat → Prop} {w w' : World} {b o : Nat} {l : List UInt8} (h : BytesAt w b o l) (k : Keeps S w w') (hS : ¬ S b) : BytesAt w' b o l := by
  have hlt := h.lt
  obtain ⟨cs, t, f, h, h2⟩ := h
  exact ⟨cs, t, f, (k.block b hlt hS).trans h, h2⟩
theorem BytesAt.cell {w : World} {b o : Nat} {l : List UInt8} (h : BytesAt w b o l) {i : Nat} (hi : i < l.length) : w.cell? ⟨b, o + i, none⟩ = some (byt l[i]) := by
  obtain ⟨cs, t, f, h, h2⟩ := h
  have h3 : ((cs.toList.drop o).take l.length)[i]? = some (byt l[i]) := by rw [h2, u8s_get]; simp [hi]
  rw [List.getElem?_take, if_pos hi, List.getElem?_drop] at h3
  simp only [World.cell?, h]
  simpa using h3
theorem BytesAt.cells {w : World} {b o : Nat} {l : List UInt8} (h : BytesAt w b o l) : ∀ j u, (u8s l)[j]? = some u → w.cell? ((⟨b, o, none⟩ : Addr).add j) = some u := by
  intro j u hu
  have hadd : (⟨b, o, none⟩ : Addr).add j = ⟨b, o + j, none⟩ := by unfold Addr.add; split <;> simp_all
  rw [hadd]
  rw [u8s_get] at hu
  have hj : j < l.length := by
    rcases Nat.lt_or_ge j l.length with h | h
    · exact h
    · simp [List.getElem?_eq_none h] at hu
  rw [h.cell hj]
  simp [hj] at hu
  rw [hu]
theorem BytesAt.of_blk {w : World} {b : Nat} {cs : List Value} {t : TypeId} (h : Blk w b cs t) {o : Nat} {l : List UInt8} (hl : (cs.drop o).take l.length = u8s l) : BytesAt w b o l :=
  ⟨cs.toArray, t, (0, 0), h, by simpa using hl⟩
theorem BytesAt.sub {w : World} {b o : Nat} {l : List UInt8} (h : BytesAt w b o l) (i n : Nat) : BytesAt w b (o + i) ((l.drop i).take n) := by
  obtain ⟨cs, t, f, h, h2⟩ := h
  refine ⟨cs, t, f, h, ?_⟩
  rw [u8s_take, u8s_drop, ← h2]
  simp only [List.length_take, List.length_drop, List.drop_take, List.drop_drop, List.take_take]
theorem BytesAt.nil {w : World} {b o : Nat} {l : List UInt8} (h : BytesAt w b o l) (o' : Nat) : BytesAt w b o' [] := by
  obtain ⟨cs, t, f, h, _⟩ := h
  exact ⟨cs, t, f, h, by simp⟩


/-! ### Draws alone -/
/-- w' is w behind some draws. -/
def Drawn (w w' : World) : Prop := ∃ n, w' = w.drewN n
theorem Drawn.refl (w : World) : Drawn w w := ⟨0, rfl⟩
theorem Drawn.drew {w w' : World} (h : Drawn w w') : Drawn w w'.drew := by obtain ⟨n, rfl⟩ := h; exact ⟨n + 1, rfl⟩
theorem Drawn.drewN {w w' : World} (h : Drawn w w') (m : Nat) : Drawn w (w'.drewN m) := by obtain ⟨n, rfl⟩ := h; exact ⟨n + m, World.drewN_drewN _ _ _⟩
theorem Drawn.keeps {w w' : World} (h : Drawn w w') (S : Nat → Prop) : Keeps S w w' := by obtain ⟨n, rfl⟩ := h; exact (Keeps.refl S w).drewN n

/-! ### Calls that only draw, behind draws -/
theorem q_add {P : Program} {f : FuncId} {args : Array Value} {w : World} {a n : Nat} {v : Value} (h : Calls P f args (w.drewN (a + n)) fun e w' => e = .returned v ∧ ∃ m, w' = (w.drewN (a + n)).drewN m) :
    Calls P f args (w.drewN (a + n)) fun e w'' => e = .returned v ∧ ∃ m, w'' = w.drewN (a + m) :=
  h.mono fun _ _ ⟨he, m, hm⟩ => ⟨he, n + m, by rw [hm, World.drewN_drewN, Nat.add_assoc]⟩
theorem q_add_same {P : Program} {f : FuncId} {args : Array Value} {w : World} {a n : Nat} {v : Value} (h : Calls P f args (w.drewN (a + n)) fun e w' => e = .returned v ∧ w' = w.drewN (a + n)) :
    Calls P f args (w.drewN (a + n)) fun e w'' => e = .returned v ∧ ∃ m, w'' = w.drewN (a + m) :=
  h.mono fun _ _ ⟨he, hm⟩ => ⟨he, n, hm⟩

/-! ### Cuts of slices -/
/-- Where a slice begins behind a cut: 's[l:]' at l = cap stays where it was. -/
@[irreducible] def cutAt (o l cap size : Nat) : Nat := if cap = l then o else o + l * size
theorem cutAt_lt {o l cap size : Nat} (h : l < cap) : cutAt o l cap size = o + l * size := by unfold cutAt; exact if_neg (by omega)

section
variable {P : Program} (w : World) (t : TypeId) (b o len cap : Nat) (ht : P.underlying t = some (.slice (P.elem t)))
theorem sliced_at (l h s : Nat) : sliced (some ⟨b, o, none⟩) l h cap s = .slice (some ⟨b, cutAt o l cap s, none⟩) (h - l) (cap - l) := by
  unfold sliced cutAt
  by_cases hc : cap = l
  · simp [hc]
  · simp [hc, Addr.add]
include ht
@[go_sem high] theorem run_cut_lh (kl kh : IntKind) (l h : Int) (h0 : 0 ≤ l) (h1 : l ≤ h) (h2 : h ≤ cap) :
    (Instr.slice t (.slice (some ⟨b, o, none⟩) len cap) (some (.int kl l)) (some (.int kh h)) none).run P w =
      ((sizeOf (P.elem t)).run P w).andThen fun s w => .ok (.slice (some ⟨b, cutAt o l.toNat cap s, none⟩) (h.toNat - l.toNat) (cap - l.toNat)) w := by
  rw [run_slice_lh w t _ len cap ht kl kh l h h0 h1 h2]
  simp only [sliced_at b o cap]
@[go_sem high] theorem run_cut_l (kl : IntKind) (l : Int) (h0 : 0 ≤ l) (h1 : l ≤ len) :
    (Instr.slice t (.slice (some ⟨b, o, none⟩) len cap) (some (.int kl l)) none none).run P w =
      ((sizeOf (P.elem t)).run P w).andThen fun s w => .ok (.slice (some ⟨b, cutAt o l.toNat cap s, none⟩) (len - l.toNat) (cap - l.toNat)) w := by
  rw [run_slice_l w t _ len cap ht kl l h0 h1]
  simp only [sliced_at b o cap]
@[go_sem high] theorem run_cut_h (kh : IntKind) (h : Int) (h0 : 0 ≤ h) (h2 : h ≤ cap) :
    (Instr.slice t (.slice (some ⟨b, o, none⟩) len cap) none (some (.int kh h)) none).run P w =
      ((sizeOf (P.elem t)).run P w).andThen fun _ w => .ok (.slice (some ⟨b, o, none⟩) h.toNat cap) w := by
  rw [run_slice_h w t _ len cap ht kh h h0 h2]
  simp only [sliced_at b o cap]
  simp [cutAt]
end
theorem BytesAt.cut {w : World} {b o : Nat} {l : List UInt8} (h : BytesAt w b o l) (i n : Nat) {cap : Nat} (hc : l.length ≤ cap) : BytesAt w b (cutAt o i cap 1) ((l.drop i).take n) := by
  unfold cutAt
  split
  · rw [List.drop_eq_nil_of_le (by omega), List.take_nil]; exact h.nil _
  · rw [Nat.mul_one]; exact h.sub i n
theorem BytesAt.cut_l {w : World} {b o : Nat} {l : List UInt8} (h : BytesAt w b o l) (i : Nat) {cap : Nat} (hc : l.length ≤ cap) : BytesAt w b (cutAt o i cap 1) (l.drop i) := by
  have := h.cut i l.length hc
  rwa [List.take_of_length_le (by simp)] at this

/-- A region that draws its order: n reads (they leave the world alone), then one effect that waits for all of them, and what follows it. -/
theorem region_tail {P : Program} {id : Nat} {Q : Exit → Act → World → Prop} {a : Act} {w : World} {l : List Oper} (n : Nat) (hm : P.follows .mixedOrders = true) (hB : Region.lexTailB .any l.toArray n = true)
    (h : wpStill P l.toArray w.drew (fun a' => wpList P l.toArray Q (l.drop n) a' w.drew) (l.take n) a) : (Code.region id l.toArray true).wp P Q a w :=
  wp_region_still_tail n hm hB h

/-! ### copy of a string into a block -/
section
variable {P : Program} {w : World}
theorem run_copy_str (dT sT ty elem : TypeId) (g o dLen dCap : Nat) (s : ByteArray) (cs : List Value) (t : TypeId) (n : Nat) (hn : n = min s.size dLen)
    (hu : P.underlying dT = some (.slice elem)) (hs : (P.info? elem).map (·.size) = some 1) (hg : Blk w g cs t) (hfit : o + n ≤ cs.length) :
    (Builtin.copy_ #[dT, sT] ty #[.slice (some ⟨g, o, none⟩) dLen dCap, .string s]).run P w =
      .ok (goInt n) (w.setRow g (cs.take o ++ u8s (s.data.toList.take n) ++ cs.drop (o + n)).toArray) := by
  have hlen : (u8s (s.data.toList.take n)).length = n := by
    rw [u8s_length, List.length_take]
    have : s.data.toList.length = s.size := rfl
    omega
  have hst := run_storeCells_at P g o t (u8s (s.data.toList.take n)) 0 cs.toArray w hg (by rw [hlen]; simpa using hfit) (u8s_one _)
  rw [hlen] at hst
  simp only [Nat.add_zero] at hst
  have e2 : List.take n (List.map (fun b : UInt8 => Value.int IntKind.u8 (b.toNat : Int)) s.data.toList) = u8s (List.take n s.data.toList) := by rw [← List.map_take]; rfl
  have e1 : s.size.min dLen = n := hn.symm
  cases hq : P.info? elem with
  | none => simp [hq] at hs
  | some i =>
    simp [Builtin.copy_, run_underlying hu, Builtin.lenOf, Builtin.firstCells, sizeOf, typeInfo, hq]
    rw [e1, e2, hst]
    simp

theorem wpList_copy_str {ops : Array Oper} {rest : List Oper} {o : Oper} {a : Act} {Q : Exit → Act → World → Prop} (hgd : o.guard = none) (d s : Operand) (dT sT : TypeId)
    (ho : o.op = .call { callee := .builtin .copy, args := #[d, s], argTypes := #[dT, sT] }) (elem : TypeId) (hu : P.underlying dT = some (.slice elem)) (hsz : (P.info? elem).map (·.size) = some 1)
    (g off dLen dCap : Nat) (t : ByteArray) (hd : a.eval d = .slice (some ⟨g, off, none⟩) dLen dCap) (hs : a.eval s = .string t) (cs : List Value) (ty : TypeId) (n : Nat) (hn : n = min t.size dLen) (hg : Blk w g cs ty) (hfit : off + n ≤ cs.length)
    (h : ∀ W, Hid (Blk W g (cs.take off ++ u8s (t.data.toList.take n) ++ cs.drop (off + n)) ty) → Keeps (In [g]) w W → wpList P ops Q rest (a.put o.dst (goInt n)) W) : wpList P ops Q (o :: rest) a w := by
  refine wpList_plain hgd fun K hK => ?_
  have hrun := run_copy_str (P := P) (w := w) dT sT o.type elem g off dLen dCap t cs ty n hn hu hsz hg hfit
  unfold Oper.wp
  simp only [execOp, ho, resolve, invoke, builtin, Sem.run_bind, Sem.run_pure, Result.andThen_ok, List.map_toArray, List.map_cons, List.map_nil, hd, hs, hrun]
  exact hK _ _ (h _ (hg.row _) (Keeps.row_one _ _ _))

/-- The same between slices: the source's cells are known. (They may be the block's own.) -/
theorem wpList_copy_cells {ops : Array Oper} {rest : List Oper} {o : Oper} {a : Act} {Q : Exit → Act → World → Prop} (hgd : o.guard = none) (d s : Operand) (dT sT : TypeId)
    (ho : o.op = .call { callee := .builtin .copy, args := #[d, s], argTypes := #[dT, sT] }) (elem : TypeId) (hu : P.underlying dT = some (.slice elem)) (hsz : (P.info? elem).map (·.size) = some 1)
    (g off dLen dCap : Nat) (sp : Option Addr) (sLen sCap : Nat) (hd : a.eval d = .slice (some ⟨g, off, none⟩) dLen dCap) (hs : a.eval s = .slice sp sLen sCap) (cs : List Value) (ty : TypeId) (hg : Blk w g cs ty)
    (new : List Value) (hn : new.length = min sLen dLen) (hsrc : ∃ ad, sp = some ad ∧ ∀ j v, new[j]? = some v → w.cell? (ad.add j) = some v) (hfit : off + new.length ≤ cs.length) (h1 : ∀ v ∈ new, v.oneCell' = true)
    (h : ∀ W, Hid (Blk W g (cs.take off ++ new ++ cs.drop (off + new.length)) ty) → Keeps (In [g]) w W → wpList P ops Q rest (a.put o.dst (goInt new.length)) W) : wpList P ops Q (o :: rest) a w := by
  obtain ⟨ad, rfl, hsrc⟩ := hsrc
  refine wpList_plain hgd fun K hK => ?_
  have hrun := run_copy_row (P := P) w dT sT o.type elem g off dLen dCap ad sLen sCap cs.toArray ty new hu hsz hg hn hsrc (by simpa using hfit) h1
  unfold Oper.wp
  simp only [execOp, ho, resolve, invoke, builtin, Sem.run_bind, Sem.run_pure, Result.andThen_ok, List.map_toArray, List.map_cons, List.map_nil, hd, hs, hrun]
  exact hK _ _ (h _ (hg.row _) (Keeps.row_one _ _ _))
end

/-- The world at hand under a name. -/
theorem wp_as {P : Program} {c : Code} {Q : Exit → Act → World → Prop} {a : Act} {w : World} (h : ∀ W, W = w → c.wp P Q a W) : c.wp P Q a w := h w rfl
theorem calls_as {P : Program} {f : FuncId} {args : Array Value} {R : Ending → World → Prop} {w : World} (h : ∀ W, W = w → Calls P f args W R) : Calls P f args w R := h w rfl
theorem wpList_as {P : Program} {ops : Array Oper} {Q : Exit → Act → World → Prop} {l : List Oper} {a : Act} {w : World} (h : ∀ W, W = w → wpList P ops Q l a W) : wpList P ops Q l a w := h w rfl

end Go.Proofs.YtjbbapodcngnaaaDoor
