/- Fields in memory; makeHeaderMap. -/
import Derived.Test.YtjbbapodcngnaaaDoorMapA
namespace Go.Proofs.YtjbbapodcngnaaaDoor
open Go.RowKit Hdr

/-- A field: its block, its key, its value, its bytes (none: it has none), and the slice that it holds them by. -/
structure Fd where
  blk : Nat
  k : List UInt8
  v : List UInt8
  raw : Option (List UInt8)
  rv : Value

/-- Block b holds cells of this type. -/
def Typed (w : World) (b : Nat) (t : TypeId) : Prop := ∃ cs f, w.heap[b]? = some (.cells cs t f)
theorem Typed.keep {S : Nat → Prop} {w w' : World} {b : Nat} {t : TypeId} (h : Typed w b t) (k : Keeps S w w') (hS : ¬ S b) : Typed w' b t := by
  obtain ⟨cs, f, h⟩ := h
  exact ⟨cs, f, (k.block b (Array.getElem?_eq_some_iff.1 h).1 hS).trans h⟩
theorem Typed.ne {w : World} {b b' : Nat} {t t' : TypeId} (h : Typed w b t) (h' : Typed w b' t') (hne : t ≠ t') : b ≠ b' := by
  rintro rfl
  obtain ⟨cs, f, h⟩ := h
  obtain ⟨cs', f', h'⟩ := h'
  rw [h] at h'
  injection h' with h'
  injection h' with h1 h2
  exact hne h2
theorem Blk.typed {w : World} {b : Nat} {cs : List Value} {t : TypeId} (h : Blk w b cs t) : Typed w b t := ⟨_, _, h⟩

/-- The slice of a field's bytes. -/
def RawAt (w : World) (lo hi : Nat) (rv : Value) : Option (List UInt8) → Prop
  | none => rv = .slice none 0 0
  | some l => ∃ rb ro cap : Nat, rv = .slice (some ⟨rb, ro, none⟩) l.length cap ∧ l.length ≤ cap ∧ lo ≤ rb ∧ rb < hi ∧ BytesAt w rb ro l ∧ Typed w rb 5

/-- The field lies in memory, in blocks from lo up to hi. -/
structure FdAt (w : World) (lo hi : Nat) (f : Fd) : Prop where
  ge : lo ≤ f.blk
  lt : f.blk < hi
  B : Blk w f.blk [f.rv, str f.k, str f.v] 70
  R : RawAt w lo hi f.rv f.raw

theorem RawAt.keep {S : Nat → Prop} {w w' : World} {lo hi : Nat} {rv : Value} {r : Option (List UInt8)} (h : RawAt w lo hi rv r) (k : Keeps S w w') (hS : ∀ x, S x → x < lo ∨ hi ≤ x) : RawAt w' lo hi rv r := by
  cases r with
  | none => exact h
  | some l =>
    obtain ⟨rb, ro, cap, h1, h2, h3, h4, h5, h6⟩ := h
    exact ⟨rb, ro, cap, h1, h2, h3, h4, h5.keep k (fun h => by have := hS _ h; omega), h6.keep k (fun h => by have := hS _ h; omega)⟩
/-- Where a block of pointers is written too. -/
theorem RawAt.keep_lb {w w' : World} {lo hi lb base : Nat} {rv : Value} {r : Option (List UInt8)} (h : RawAt w lo hi rv r) (hl : Typed w lb 67) (k : Keeps (fun x => x = lb ∨ x < lo ∨ base ≤ x) w w') (hS : hi ≤ base) : RawAt w' lo hi rv r := by
  cases r with
  | none => exact h
  | some l =>
    obtain ⟨rb, ro, cap, h1, h2, h3, h4, h5, h6⟩ := h
    have hne := h6.ne hl (by decide)
    exact ⟨rb, ro, cap, h1, h2, h3, h4, h5.keep k (fun h => by omega), h6.keep k (fun h => by omega)⟩
theorem FdAt.keep {S : Nat → Prop} {w w' : World} {lo hi : Nat} {f : Fd} (h : FdAt w lo hi f) (k : Keeps S w w') (hS : ∀ x, S x → x < lo ∨ hi ≤ x) : FdAt w' lo hi f :=
  ⟨h.ge, h.lt, h.B.keep k (fun hs => by have := hS _ hs; have := h.ge; have := h.lt; omega), h.R.keep k hS⟩
theorem RawAt.mono {w : World} {lo hi hi' : Nat} {rv : Value} {r : Option (List UInt8)} (h : RawAt w lo hi rv r) (hh : hi ≤ hi') : RawAt w lo hi' rv r := by
  cases r with
  | none => exact h
  | some l =>
    obtain ⟨rb, ro, cap, h1, h2, h3, h4, h5, h6⟩ := h
    exact ⟨rb, ro, cap, h1, h2, h3, by omega, h5, h6⟩
theorem FdAt.mono {w : World} {lo hi hi' : Nat} {f : Fd} (h : FdAt w lo hi f) (hh : hi ≤ hi') : FdAt w lo hi' f := ⟨h.ge, Nat.lt_of_lt_of_le h.lt hh, h.B, h.R.mono hh⟩

theorem FdAt.keep_lb {w w' : World} {lo hi lb base : Nat} {f : Fd} (h : FdAt w lo hi f) (hl : Typed w lb 67) (k : Keeps (fun x => x = lb ∨ x < lo ∨ base ≤ x) w w') (hS : hi ≤ base) : FdAt w' lo hi f :=
  have hne := h.B.typed.ne hl (by decide)
  ⟨h.ge, h.lt, h.B.keep k (fun hs => by have := h.ge; have := h.lt; omega), h.R.keep_lb hl k hS⟩

/-- All of them. -/
def Fds (w : World) (lo hi : Nat) (fs : List Fd) : Prop := ∀ f ∈ fs, FdAt w lo hi f
theorem Fds.keep {S : Nat → Prop} {w w' : World} {lo hi : Nat} {fs : List Fd} (h : Fds w lo hi fs) (k : Keeps S w w') (hS : ∀ x, S x → x < lo ∨ hi ≤ x) : Fds w' lo hi fs := fun f hf => (h f hf).keep k hS
theorem Fds.keep_lb {w w' : World} {lo hi lb base : Nat} {fs : List Fd} (h : Fds w lo hi fs) (hl : Typed w lb 67) (k : Keeps (fun x => x = lb ∨ x < lo ∨ base ≤ x) w w') (hS : hi ≤ base) : Fds w' lo hi fs := fun f hf => (h f hf).keep_lb hl k hS
theorem Fds.mono {w : World} {lo hi hi' : Nat} {fs : List Fd} (h : Fds w lo hi fs) (hh : hi ≤ hi') : Fds w lo hi' fs := fun f hf => (h f hf).mono hh

/-- The pointers of some fields begin block lb. -/
def PtrsAt (w : World) (lb : Nat) (l : List Nat) : Prop := ∃ cs f, w.heap[lb]? = some (.cells cs 67 f) ∧ cs.toList.take l.length = ptrs l
theorem PtrsAt.typed {w : World} {lb : Nat} {l : List Nat} (h : PtrsAt w lb l) : Typed w lb 67 := by
  obtain ⟨cs, f, h, _⟩ := h
  exact ⟨cs, f, h⟩
theorem PtrsAt.lt {w : World} {lb : Nat} {l : List Nat} (h : PtrsAt w lb l) : lb < w.heap.size := by
  obtain ⟨cs, f, h, _⟩ := h
  exact (Array.getElem?_eq_some_iff.1 h).1
theorem PtrsAt.keep {S : Nat → Prop} {w w' : World} {lb : Nat} {l : List Nat} (h : PtrsAt w lb l) (k : Keeps S w w') (hS : ¬ S lb) : PtrsAt w' lb l := by
  have hl := h.lt
  obtain ⟨cs, f, h, h2⟩ := h
  exact ⟨cs, f, (k.block lb hl hS).trans h, h2⟩
theorem PtrsAt.cell {w : World} {lb : Nat} {l : List Nat} (h : PtrsAt w lb l) {i : Nat} (hi : i < l.length) : w.cell? ⟨lb, i, none⟩ = some (.pointer (some ⟨l[i], 0, none⟩)) := by
  obtain ⟨cs, f, h, h2⟩ := h
  have h3 : (cs.toList.take l.length)[i]? = some (.pointer (some ⟨l[i], 0, none⟩)) := by rw [h2]; simp [ptrs, hi]
  rw [List.getElem?_take, if_pos hi] at h3
  simp only [World.cell?, h]
  simpa using h3

/-- The groups of some fields. -/
structure Grouped (w : World) (base : Nat) (gs : List Grp) (fs : List Fd) : Prop where
  keys : gs.Pairwise (fun x y => x.key ≠ y.key)
  apart : gs.Pairwise (fun x y => x.v.ownBlock ≠ y.v.ownBlock)
  own : ∀ x ∈ gs, PS w base x.v x.ps
  some_ : ∀ x ∈ gs, x.ps ≠ []
  of : ∀ x ∈ gs, x.ps = (fs.filter (fun f => decide (f.k = x.key))).map (·.blk)
  all : ∀ f ∈ fs, ∃ x ∈ gs, x.key = f.k

theorem PS.keep {S : Nat → Prop} {w w' : World} {base : Nat} {v : Value} {l : List Nat} (h : PS w base v l) (k : Keeps S w w') (hS : ∀ b, v.ownBlock = some b → ¬ S b) : PS w' base v l := by
  obtain ⟨h1, h2⟩ := h
  refine ⟨h1, ?_⟩
  rcases h2 with h2 | ⟨g, cap, cur, rfl, hb, hg, h3⟩
  · exact .inl h2
  · exact .inr ⟨g, cap, cur, rfl, hb, (k.block g (Array.getElem?_eq_some_iff.1 hg).1 (hS g rfl)).trans hg, h3⟩
theorem Grouped.keep {S : Nat → Prop} {w w' : World} {base : Nat} {gs : List Grp} {fs : List Fd} (h : Grouped w base gs fs) (k : Keeps S w w') (hS : ∀ x ∈ gs, ∀ b, x.v.ownBlock = some b → ¬ S b) : Grouped w' base gs fs :=
  ⟨h.keys, h.apart, fun x hx => PS.keep (h.own x hx) k (hS x hx), h.some_, h.of, h.all⟩
theorem PS.block {w : World} {base : Nat} {v : Value} {l : List Nat} (h : PS w base v l) (hl : l ≠ []) : ∃ g cap, v = .slice (some ⟨g, 0, none⟩) l.length cap ∧ base ≤ g ∧ g < w.heap.size ∧ PtrsAt w g l ∧ l.length ≤ cap ∧ cap ≤ maxLen := by
  obtain ⟨h1, h2⟩ := h
  rcases h2 with ⟨_, h2⟩ | ⟨g, cap, cur, rfl, hb, hg, h3, h4, h5, h6⟩
  · exact absurd (List.length_eq_zero_iff.1 h2) hl
  · exact ⟨g, cap, rfl, hb, (Array.getElem?_eq_some_iff.1 hg).1, ⟨cur, (0, 0), hg, by simpa using h6⟩, h3, h4⟩

/-- A header's map: nil where there is no field. -/
def HMap (w : World) (base : Nat) (m : Option Nat) (fs : List Fd) : Prop :=
  (m = none ∧ fs = []) ∨ ∃ mb gs, m = some mb ∧ base ≤ mb ∧ MapE w mb gs ∧ Grouped w base gs fs

/-- What makeHeaderMap leaves. -/
def MhmPost (fs : List Fd) (w : World) (e : Ending) (w' : World) : Prop := ∃ m, e = .returned (.map m) ∧ HMap w' w.heap.size m fs ∧ Keeps No w w'

theorem filter_take_succ (fs : List Fd) (i : Nat) (hi : i < fs.length) (k : List UInt8) : ((fs.take (i + 1)).filter (fun f => decide (f.k = k))).map (·.blk) = ((fs.take i).filter (fun f => decide (f.k = k))).map (·.blk) ++ (if fs[i].k = k then [fs[i].blk] else []) := by
  rw [List.take_succ_eq_append_getElem hi, List.filter_append, List.map_append]
  congr 1
  by_cases h : fs[i].k = k
  · simp [h]
  · simp [h]

/-- One field more, with a new key. -/
theorem Grouped.push_new {w W : World} {base : Nat} {gs : List Grp} {fs : List Fd} {i : Nat} (hi : i < fs.length) (h : Grouped w base gs (fs.take i)) (hn : ∀ x ∈ gs, x.key ≠ fs[i].k) {v : Value} (hv : PS W base v [fs[i].blk])
    (ho : ∀ x ∈ gs, PS W base x.v x.ps) (ha : ∀ x ∈ gs, x.v.ownBlock ≠ v.ownBlock) : Grouped W base (gs ++ [⟨fs[i].k, v, [fs[i].blk]⟩]) (fs.take (i + 1)) := by
  refine ⟨?_, ?_, ?_, ?_, ?_, ?_⟩
  · rw [List.pairwise_append]
    exact ⟨h.keys, List.pairwise_singleton _ _, fun a ha b hb => by simp at hb; subst hb; exact hn a ha⟩
  · rw [List.pairwise_append]
    exact ⟨h.apart, List.pairwise_singleton _ _, fun a h1 b hb => by simp at hb; subst hb; exact ha a h1⟩
  · intro x hx
    rcases List.mem_append.1 hx with hx | hx
    · exact ho x hx
    · simp at hx; subst hx; exact hv
  · intro x hx
    rcases List.mem_append.1 hx with hx | hx
    · exact h.some_ x hx
    · simp at hx; subst hx; simp
  · intro x hx
    rw [filter_take_succ fs i hi]
    rcases List.mem_append.1 hx with hx | hx
    · rw [if_neg (fun e => hn x hx e.symm), List.append_nil]
      exact h.of x hx
    · simp at hx; subst hx
      rw [if_pos rfl]
      have : ((fs.take i).filter (fun f => decide (f.k = fs[i].k))) = [] := by
        rw [List.filter_eq_nil_iff]
        intro f hf hk
        obtain ⟨x, hx, hxk⟩ := h.all f hf
        exact hn x hx (by rw [hxk]; simpa using hk)
      rw [this]
      rfl
  · intro f hf
    rw [List.take_succ_eq_append_getElem hi] at hf
    rcases List.mem_append.1 hf with hf | hf
    · obtain ⟨x, hx, hk⟩ := h.all f hf
      exact ⟨x, List.mem_append_left _ hx, hk⟩
    · simp at hf; subst hf
      exact ⟨⟨fs[i].k, v, [fs[i].blk]⟩, by simp, rfl⟩

/-- .. with a key that is there. -/
theorem Grouped.push_old {w W : World} {base : Nat} {a b : List Grp} {y : Grp} {fs : List Fd} {i : Nat} (hi : i < fs.length) (h : Grouped w base (a ++ y :: b) (fs.take i)) (hy : y.key = fs[i].k) {v : Value} (hv : PS W base v (y.ps ++ [fs[i].blk]))
    (ho : ∀ x ∈ a ++ b, PS W base x.v x.ps) (ha : ∀ x ∈ a ++ b, x.v.ownBlock ≠ v.ownBlock) : Grouped W base (a ++ ⟨fs[i].k, v, y.ps ++ [fs[i].blk]⟩ :: b) (fs.take (i + 1)) := by
  have hk := h.keys
  have hp := h.apart
  rw [List.pairwise_append, List.pairwise_cons] at hk hp
  have hmem : ∀ x ∈ a ++ (⟨fs[i].k, v, y.ps ++ [fs[i].blk]⟩ : Grp) :: b, x = ⟨fs[i].k, v, y.ps ++ [fs[i].blk]⟩ ∨ x ∈ a ++ b := by
    intro x hx
    simp only [List.mem_append, List.mem_cons] at hx ⊢
    rcases hx with hx | hx | hx
    · exact .inr (.inl hx)
    · exact .inl hx
    · exact .inr (.inr hx)
  have hold : ∀ x ∈ a ++ b, x ∈ a ++ y :: b := fun x hx => by
    simp only [List.mem_append, List.mem_cons] at hx ⊢
    rcases hx with hx | hx
    · exact .inl hx
    · exact .inr (.inr hx)
  have hne : ∀ x ∈ a ++ b, x.key ≠ fs[i].k := fun x hx => by
    rw [← hy]
    rcases List.mem_append.1 hx with hx | hx
    · exact hk.2.2 x hx y (List.mem_cons_self ..)
    · exact (hk.2.1.1 x hx).symm
  refine ⟨?_, ?_, ?_, ?_, ?_, ?_⟩
  · rw [List.pairwise_append, List.pairwise_cons]
    refine ⟨hk.1, ⟨fun x hx => (hne x (List.mem_append_right _ hx)).symm, hk.2.1.2⟩, fun x hx z hz => ?_⟩
    rcases List.mem_cons.1 hz with rfl | hz
    · exact hne x (List.mem_append_left _ hx)
    · exact hk.2.2 x hx z (List.mem_cons_of_mem _ hz)
  · rw [List.pairwise_append, List.pairwise_cons]
    refine ⟨hp.1, ⟨fun x hx => (ha x (List.mem_append_right _ hx)).symm, hp.2.1.2⟩, fun x hx z hz => ?_⟩
    rcases List.mem_cons.1 hz with rfl | hz
    · exact ha x (List.mem_append_left _ hx)
    · exact hp.2.2 x hx z (List.mem_cons_of_mem _ hz)
  · intro x hx
    rcases hmem x hx with rfl | hx
    · exact hv
    · exact ho x hx
  · intro x hx
    rcases hmem x hx with rfl | hx
    · simp
    · exact h.some_ x (hold x hx)
  · intro x hx
    rw [filter_take_succ fs i hi]
    rcases hmem x hx with rfl | hx
    · rw [if_pos rfl, ← hy]
      exact congrArg (· ++ [fs[i].blk]) (h.of y (by simp))
    · rw [if_neg (fun e => hne x hx e.symm), List.append_nil]
      exact h.of x (hold x hx)
  · intro f hf
    rw [List.take_succ_eq_append_getElem hi] at hf
    rcases List.mem_append.1 hf with hf | hf
    · obtain ⟨x, hx, hxk⟩ := h.all f hf
      simp only [List.mem_append, List.mem_cons] at hx
      rcases hx with hx | rfl | hx
      · exact ⟨x, List.mem_append_left _ hx, hxk⟩
      · exact ⟨⟨fs[i].k, v, x.ps ++ [fs[i].blk]⟩, by simp, by rw [← hxk]; exact hy.symm⟩
      · exact ⟨x, List.mem_append_right _ (List.mem_cons_of_mem _ hx), hxk⟩
    · simp at hf; subst hf
      exact ⟨⟨fs[i].k, v, y.ps ++ [fs[i].blk]⟩, by simp, rfl⟩
end Go.Proofs.YtjbbapodcngnaaaDoor
