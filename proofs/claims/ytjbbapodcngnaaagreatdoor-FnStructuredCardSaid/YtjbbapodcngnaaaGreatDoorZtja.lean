/- The structure of a message as the specification holds it. The structure of a message as the specification holds it: steps. spec.ShapeOf: one message of its parts. spec.ShapeOf: the walk. spec.ShapeOf, of any message. -/
import Derived.Test.YtjbbapodcngnaaaGreatDoorZtbc
import Derived.Test.YtjbbapodcngnaaaGreatDoorZtaa
import Derived.Test.YtjbbapodcngnaaaGreatDoorZtab
import Derived.Test.YtjbbapodcngnaaaGreatDoorZtbd
namespace Go.Proofs.YtjbbapodcngnaaaGreatDoor.G
open Go.RowKit Hdr

/-- The cells of a Shape. -/
def shc (t s b i a y : List UInt8) (n l : Nat) (pv : Value) : List Value := [str t, str s, str b, str i, str a, str y, .int .i64 n, .int .i64 l, pv]
mutual
/-- A structure's cells; the blocks of its slices are in A. -/
def ShC (w : World) (A : Nat → Prop) : Sh → List Value → Prop
  | .mk t s b i a y n l ps, cs => ∃ pv css, cs = shc t s b i a y n l pv ∧ w.ownsRow 0 46 9 pv ps.length css.flatten ∧ (∀ b, pv.ownBlock = some b → A b) ∧ ShsC w A ps css
def ShsC (w : World) (A : Nat → Prop) : List Sh → List (List Value) → Prop
  | [], css => css = []
  | x :: l, css => ∃ c r, css = c :: r ∧ ShC w A x c ∧ ShsC w A l r
end
theorem ShC_eq (w : World) (A : Nat → Prop) (t s b i a y : List UInt8) (n l : Nat) (ps : List Sh) (cs : List Value) : ShC w A (.mk t s b i a y n l ps) cs = ∃ pv css, cs = shc t s b i a y n l pv ∧ w.ownsRow 0 46 9 pv ps.length css.flatten ∧ (∀ b, pv.ownBlock = some b → A b) ∧ ShsC w A ps css := by rw [ShC]
theorem ShsC_nil (w : World) (A : Nat → Prop) (css : List (List Value)) : ShsC w A [] css = (css = []) := by rw [ShsC]
theorem ShsC_cons (w : World) (A : Nat → Prop) (x : Sh) (l : List Sh) (css : List (List Value)) : ShsC w A (x :: l) css = ∃ c r, css = c :: r ∧ ShC w A x c ∧ ShsC w A l r := by rw [ShsC]
mutual
theorem ShC.keep {S A : Nat → Prop} {w w' : World} (K : Keeps S w w') (hS : ∀ x, A x → ¬ S x) : ∀ (x : Sh) (cs : List Value), ShC w A x cs → ShC w' A x cs
  | .mk t s b i a y n l ps, cs, h => by
    rw [ShC_eq] at h ⊢
    obtain ⟨pv, css, h1, h2, h3, h4⟩ := h
    exact ⟨pv, css, h1, rowK h2 K (fun b hb => hS b (h3 b hb)), h3, ShsC.keep K hS ps css h4⟩
theorem ShsC.keep {S A : Nat → Prop} {w w' : World} (K : Keeps S w w') (hS : ∀ x, A x → ¬ S x) : ∀ (l : List Sh) (css : List (List Value)), ShsC w A l css → ShsC w' A l css
  | [], css, h => by rw [ShsC_nil] at h ⊢; exact h
  | x :: l, css, h => by
    rw [ShsC_cons] at h ⊢
    obtain ⟨c, r, h1, h2, h3⟩ := h
    exact ⟨c, r, h1, ShC.keep K hS x c h2, ShsC.keep K hS l r h3⟩
end
mutual
theorem ShC.mono {A B : Nat → Prop} {w : World} (hS : ∀ x, x < w.heap.size → A x → B x) : ∀ (x : Sh) (cs : List Value), ShC w A x cs → ShC w B x cs
  | .mk t s b i a y n l ps, cs, h => by
    rw [ShC_eq] at h ⊢
    obtain ⟨pv, css, h1, h2, h3, h4⟩ := h
    exact ⟨pv, css, h1, h2, fun b hb => hS b (World.ownsRow.lt h2 b hb).2 (h3 b hb), ShsC.mono hS ps css h4⟩
theorem ShsC.mono {A B : Nat → Prop} {w : World} (hS : ∀ x, x < w.heap.size → A x → B x) : ∀ (l : List Sh) (css : List (List Value)), ShsC w A l css → ShsC w B l css
  | [], css, h => by rw [ShsC_nil] at h ⊢; exact h
  | x :: l, css, h => by
    rw [ShsC_cons] at h ⊢
    obtain ⟨c, r, h1, h2, h3⟩ := h
    exact ⟨c, r, h1, ShC.mono hS x c h2, ShsC.mono hS l r h3⟩
end
theorem ShsC.snoc {A : Nat → Prop} {w : World} {x : Sh} {c : List Value} (hx : ShC w A x c) : ∀ (l : List Sh) (css : List (List Value)), ShsC w A l css → ShsC w A (l ++ [x]) (css ++ [c])
  | [], css, h => by
    rw [ShsC_nil] at h
    subst h
    rw [List.nil_append, ShsC_cons]
    exact ⟨c, [], rfl, hx, by rw [ShsC_nil]⟩
  | y :: l, css, h => by
    rw [ShsC_cons] at h
    obtain ⟨d, r, rfl, h2, h3⟩ := h
    rw [List.cons_append, ShsC_cons]
    exact ⟨d, r ++ [c], rfl, h2, ShsC.snoc hx l r h3⟩
theorem ShC.len {A : Nat → Prop} {w : World} {x : Sh} {cs : List Value} (h : ShC w A x cs) : cs.length = 9 := by
  obtain ⟨t, s, b, i, a, y, n, l, ps⟩ := x
  rw [ShC_eq] at h
  obtain ⟨pv, css, rfl, _⟩ := h
  rfl
theorem ShC.one {A : Nat → Prop} {w : World} {x : Sh} {cs : List Value} (h : ShC w A x cs) : ∀ u ∈ cs, u.oneCell' = true := by
  obtain ⟨t, s, b, i, a, y, n, l, ps⟩ := x
  rw [ShC_eq] at h
  obtain ⟨pv, css, rfl, h2, _⟩ := h
  obtain ⟨ra, rm, rc, rfl⟩ := rowV h2
  intro u hu
  simp only [shc, List.mem_cons, List.not_mem_nil, or_false] at hu
  rcases hu with rfl | rfl | rfl | rfl | rfl | rfl | rfl | rfl | rfl <;> rfl
theorem ShsC.get {A : Nat → Prop} {w : World} : ∀ (l : List Sh) (css : List (List Value)), ShsC w A l css → ∀ (i : Nat) (x : Sh), l[i]? = some x → ∃ c, css[i]? = some c ∧ ShC w A x c ∧ ∀ (k : Nat) (u : Value), c[k]? = some u → css.flatten[i * 9 + k]? = some u
  | y :: l, css, h, i, x, hi => by
    rw [ShsC_cons] at h
    obtain ⟨d, r, rfl, h2, h3⟩ := h
    have hd := h2.len
    cases i with
    | zero =>
      simp at hi
      subst hi
      refine ⟨d, rfl, h2, fun k u hu => ?_⟩
      have hk : k < d.length := (List.getElem?_eq_some_iff.1 hu).1
      rw [List.flatten_cons, List.getElem?_append_left (by omega), Nat.zero_mul, Nat.zero_add]
      exact hu
    | succ i =>
      obtain ⟨c, h4, h5, h6⟩ := ShsC.get l r h3 i x (by simpa using hi)
      refine ⟨c, by simpa using h4, h5, fun k u hu => ?_⟩
      rw [List.flatten_cons, List.getElem?_append_right (by omega), show (i + 1) * 9 + k - d.length = i * 9 + k by omega]
      exact h6 k u hu

/-- append(s, x): one structure, laid into a block of its own first. -/
theorem info_sh : (Tryz.prog.info? 46).map (fun i => (i.zero, i.size, i.bytes)) = some (some (.agg #[.string ⟨#[]⟩, .string ⟨#[]⟩, .string ⟨#[]⟩, .string ⟨#[]⟩, .string ⟨#[]⟩, .string ⟨#[]⟩, .int .i64 0, .int .i64 0, .slice none 0 0]), 9, 136) := by kernel_rfl
theorem wpList_append_sh {w : World} {ops : Array Oper} {rest : List Oper} {o : Oper} {a : Act} {Q : Exit → Act → World → Prop} (hgd : o.guard = none) (s x : Operand)
    (ho : o.op = .call { callee := .builtin .append, args := #[s, x], argTypes := #[44, 44] })
    (n : Nat) (vs : Value) (xs ys : List Value) (hs : a.eval s = vs) (hown : w.ownsRow 0 46 9 vs n xs) (g cap : Nat) (hx : a.eval x = .slice (some ⟨g, 0, none⟩) 1 cap) (hB : Blk w g ys 46) (hy : ys.length = 9) (hones : ∀ u ∈ ys, u.oneCell' = true) (hb : n ≤ 1000000)
    (h : ∀ v' W, W.ownsRow 0 46 9 v' (n + 1) (xs ++ ys) → Keeps (fun k => vs.ownBlock = some k) w W → (∀ x, v'.ownBlock = some x → vs.ownBlock = some x ∨ w.heap.size ≤ x) → wpList Tryz.prog ops Q rest (a.put o.dst v') W) : wpList Tryz.prog ops Q (o :: rest) a w := by
  obtain ⟨i0, hi, hz0, hz1, hz2⟩ := info_parts info_sh
  refine wpList_append_own_at (P := Tryz.prog) w hgd s x 44 ho 0 46 i0 _ 9 136 Tryz.underlying44 hi hz0 hz1 hz2 rfl (by decide) vs n xs hs hown ⟨g, 0, none⟩ 1 cap ys hx (by rw [hy]) (fun j u hj => ?_) hones (by unfold maxLen; omega) (by omega) (Nat.zero_le _) ?_
  · rw [show (⟨g, 0, none⟩ : Addr).add j = ⟨g, 0 + j, none⟩ from Addr.add_mid g 0 j, Nat.zero_add]
    exact (hB.cell j).trans hj
  · intro v' W hr hgr _ hat
    refine h v' W hr ((Keeps.refl _ w).grown hgr (fun k hk => .inl hk)) (fun x hx => ?_)
    rcases hat with hat | hat
    · exact .inl (hat ▸ hx)
    · rw [hat] at hx
      injection hx with hx
      exact .inr (Nat.le_of_eq hx)
end Go.Proofs.YtjbbapodcngnaaaGreatDoor.G
namespace Go.Proofs.YtjbbapodcngnaaaGreatDoor.G
open Go.RowKit Hdr

/-- What ShapeOf leaves. -/
def ShPost (sh : Sh) (su : Bool) (w : World) (e : Ending) (w' : World) : Prop :=
  ∃ (t s b i a y : List UInt8) (n l : Nat) (ps : List Sh) (pa : Option Addr) (pm pc : Nat) (qs : List (List Value)), sh = .mk t s b i a y n l ps ∧ e = .returned (.tuple #[.agg #[str t, str s, str b, str i, str a, str y, .int .i64 n, .int .i64 l, .slice pa pm pc], .bool su]) ∧
    w'.ownsRow 0 46 9 (.slice pa pm pc) ps.length qs.flatten ∧ (∀ x, (Value.slice pa pm pc).ownBlock = some x → w.heap.size ≤ x) ∧ ShsC w' (fun x => w.heap.size ≤ x) ps qs ∧ Keeps No w w'
theorem three_blks (w : World) (c0 c1 c2 : List Value) (t0 t1 t2 : TypeId) :
    Blk (((w.alloc (.cells c0.toArray t0)).alloc (.cells c1.toArray t1)).alloc (.cells c2.toArray t2)) w.heap.size c0 t0 ∧ Blk (((w.alloc (.cells c0.toArray t0)).alloc (.cells c1.toArray t1)).alloc (.cells c2.toArray t2)) (w.heap.size + 1) c1 t1 ∧
      Blk (((w.alloc (.cells c0.toArray t0)).alloc (.cells c1.toArray t1)).alloc (.cells c2.toArray t2)) (w.heap.size + 1 + 1) c2 t2 ∧ Keeps No w (((w.alloc (.cells c0.toArray t0)).alloc (.cells c1.toArray t1)).alloc (.cells c2.toArray t2)) ∧
      w.heap.size + 3 ≤ (((w.alloc (.cells c0.toArray t0)).alloc (.cells c1.toArray t1)).alloc (.cells c2.toArray t2)).heap.size := by
  generalize e1 : w.alloc (.cells c0.toArray t0) = w1
  have s1 : w1.heap.size = w.heap.size + 1 := by rw [← e1]; simp
  have b0 : Blk w1 w.heap.size c0 t0 := by rw [← e1]; exact Blk.alloc_at rfl c0 _
  have k1 : Keeps No w w1 := by rw [← e1]; exact (Keeps.refl No w).alloc _
  generalize e2 : w1.alloc (.cells c1.toArray t1) = w2
  have s2 : w2.heap.size = w.heap.size + 1 + 1 := by rw [← e2]; simp; exact s1
  have b1 : Blk w2 (w.heap.size + 1) c1 t1 := by rw [← e2]; exact Blk.alloc_at s1.symm c1 _
  have b0 := b0.alloc_eq e2
  have k2 : Keeps No w w2 := by rw [← e2]; exact k1.alloc _
  generalize e3 : w2.alloc (.cells c2.toArray t2) = w3
  have b2 : Blk w3 (w.heap.size + 1 + 1) c2 t2 := by rw [← e3]; exact Blk.alloc_at s2.symm c2 _
  have k3 : Keeps No w w3 := by rw [← e3]; exact k2.alloc _
  have s3 : w3.heap.size = w.heap.size + 3 := by rw [← e3]; simp; omega
  exact ⟨b0.alloc_eq e3, b1.alloc_eq e3, b2, k3, by omega⟩
/-- One part more. -/
theorem parts_step {wc wr wx wz W : World} {b2 i : Nat} {T S B id ab way : List UInt8} {n l : Nat} {pv v' : Value} {qs : List (List Value)} {shs : List Sh} {shk : Sh} {c : List Value}
    (hb2 : b2 < wc.heap.size) (KR : Keeps (fun x => x = b2) wc wr) (HB2 : Blk wr b2 (shc T S B id ab way n l pv) 46) (hrow : wr.ownsRow 0 46 9 pv i qs.flatten) (hpv : ∀ b, pv.ownBlock = some b → wc.heap.size ≤ b)
    (hsh : ShsC wr (fun x => wc.heap.size ≤ x ∧ pv.ownBlock ≠ some x) shs qs) (KX : Keeps No wr wx) (hk : ShC wx (fun x => wr.heap.size ≤ x) shk c) (KA : Keeps No wx wz)
    (hv : W.ownsRow 0 46 9 v' (i + 1) (qs.flatten ++ c)) (K : Keeps (fun k => pv.ownBlock = some k) wz W) (hvo : ∀ x, v'.ownBlock = some x → pv.ownBlock = some x ∨ wz.heap.size ≤ x) :
    Blk (W.setCell ⟨b2, 8, none⟩ v') b2 (shc T S B id ab way n l v') 46 ∧ (W.setCell ⟨b2, 8, none⟩ v').ownsRow 0 46 9 v' (i + 1) (qs ++ [c]).flatten ∧ (∀ b, v'.ownBlock = some b → wc.heap.size ≤ b) ∧
      ShsC (W.setCell ⟨b2, 8, none⟩ v') (fun x => wc.heap.size ≤ x ∧ v'.ownBlock ≠ some x) (shs ++ [shk]) (qs ++ [c]) ∧ Keeps (fun x => x = b2) wc (W.setCell ⟨b2, 8, none⟩ v') := by
  have hsz := KR.size
  have hsx := KX.size
  have hsa := KA.size
  have hpb : ¬ pv.ownBlock = some b2 := fun e => by have := hpv _ e; omega
  have hv0 : ∀ b, v'.ownBlock = some b → wc.heap.size ≤ b := fun b hb => by
    rcases hvo b hb with h | h
    · exact hpv b h
    · omega
  have kset : Keeps (fun x => x = b2) W (W.setCell ⟨b2, 8, none⟩ v') := (Keeps.refl (fun x => x = b2) W).setCell (p := ⟨b2, 8, none⟩) (.inl rfl) _
  have HB2W : Blk W b2 (shc T S B id ab way n l pv) 46 := ((HB2.keep_no KX).keep_no KA).keep K hpb
  refine ⟨(HB2W.set 8 v').to rfl, ?_, hv0, ?_, ?_⟩
  · rw [List.flatten_append, List.flatten_cons, List.flatten_nil, List.append_nil]
    exact rowK hv kset (fun b hb h => by have := hv0 b hb; omega)
  · have h1 : ShsC wz (fun x => wc.heap.size ≤ x ∧ pv.ownBlock ≠ some x ∧ v'.ownBlock ≠ some x) shs qs := by
      have g1 : ShsC wr (fun x => wc.heap.size ≤ x ∧ pv.ownBlock ≠ some x ∧ x < wr.heap.size) shs qs := ShsC.mono (fun x hx h => ⟨h.1, h.2, hx⟩) _ _ hsh
      have g2 := ShsC.keep KA (fun _ _ h => h) _ _ (ShsC.keep KX (fun _ _ h => h) _ _ g1)
      refine ShsC.mono (fun x hx h => ⟨h.1, h.2.1, fun e => ?_⟩) shs qs g2
      rcases hvo x e with h' | h'
      · exact h.2.1 h'
      · have := h.2.2; omega
    have h2 : ShC wz (fun x => wc.heap.size ≤ x ∧ pv.ownBlock ≠ some x ∧ v'.ownBlock ≠ some x) shk c := by
      have h3 : ShC wx (fun x => wr.heap.size ≤ x ∧ x < wx.heap.size) shk c := ShC.mono (fun x hx h => ⟨h, hx⟩) _ _ hk
      refine ShC.mono (fun x hx h => ⟨by omega, fun e => ?_, fun e => ?_⟩) shk c (ShC.keep KA (fun _ _ h => h) _ _ h3)
      · have := (World.ownsRow.lt hrow x e).2
        omega
      · rcases hvo x e with h' | h'
        · have := (World.ownsRow.lt hrow x h').2
          omega
        · omega
    have h4 := ShsC.snoc h2 shs qs h1
    have h5 := ShsC.keep K (fun x h => h.2.1) _ _ h4
    have h6 := ShsC.keep kset (fun x h e => by have := h.1; omega) _ _ h5
    exact ShsC.mono (fun x hx h => ⟨h.1, h.2.2⟩) _ _ h6
  · exact (((KR.trans_no KX).trans_no KA).trans K (fun x hx e => by have := hpv x e; omega)).trans' kset
theorem load_sh (w : World) (g : Nat) (x0 x1 x2 x3 x4 x5 x6 x7 x8 : Value) (h : Blk w g [x0, x1, x2, x3, x4, x5, x6, x7, x8] 46) : (loadVar 46 ⟨g, 0, none⟩).run Tryz.prog w = .ok (.agg #[x0, x1, x2, x3, x4, x5, x6, x7, x8]) w :=
  run_loadVar_row w g 46 46 #[x0, x1, x2, x3, x4, x5, x6, x7, x8] (0, 0) _ h Tryz.underlying46 rfl (by kernel_rfl)
end Go.Proofs.YtjbbapodcngnaaaGreatDoor.G
namespace Go.Proofs.YtjbbapodcngnaaaGreatDoor.G
open Go.RowKit Hdr

def KidsShape (w : World) (kids : List Ml) (p : List UInt8) : Prop := ∀ (i : Nat) (k : Ml) (ha : Option Addr) (hc : Nat) (ka : Option Addr) (kc : Nat), kids[i]? = some k → MlC w k (mlCs (.slice ha k.head.length hc) k.kind k.type k.sub k.id k.about k.way k.text (.slice ka k.kids.length kc)) → ∀ W, Keeps No w W →
  Calls Tryz.prog 16 #[mlVal ha k.head.length hc k.kind k.type k.sub k.id k.about k.way k.text ka k.kids.length kc, str (under p i)] W (ShPost (shapeOf k (under p i)) (sureOf k (under p i)) W)
/-- A part's structure at a block of its own. -/
def KidAt (wr : World) (sh : Sh) (wx : World) (v : Value) : Prop :=
  ∃ (g : Nat) (t s b i a y : List UInt8) (n l : Nat) (ps : List Sh) (pa : Option Addr) (pm pc : Nat) (qs : List (List Value)), sh = .mk t s b i a y n l ps ∧ v = .pointer (some ⟨g, 0, none⟩) ∧ Blk wx g [str t, str s, str b, str i, str a, str y, .int .i64 n, .int .i64 l, .slice pa pm pc] 46 ∧
    wx.ownsRow 0 46 9 (.slice pa pm pc) ps.length qs.flatten ∧ (∀ x, (Value.slice pa pm pc).ownBlock = some x → wr.heap.size ≤ x) ∧ ShsC wx (fun x => wr.heap.size ≤ x) ps qs ∧ Keeps No wr wx
theorem kidAt_alloc {wr w3 : World} {t s b i a y : List UInt8} {n l : Nat} {ps : List Sh} {pa : Option Addr} {pm pc : Nat} {qs : List (List Value)} (h1 : w3.ownsRow 0 46 9 (.slice pa pm pc) ps.length qs.flatten) (h2 : ∀ x, (Value.slice pa pm pc).ownBlock = some x → wr.heap.size ≤ x) (h3 : ShsC w3 (fun x => wr.heap.size ≤ x) ps qs) (K : Keeps No wr w3) :
    KidAt wr (.mk t s b i a y n l ps) (w3.alloc (.cells #[str t, str s, str b, str i, str a, str y, .int .i64 n, .int .i64 l, .slice pa pm pc] 46)) (.pointer (some ⟨w3.heap.size, 0, none⟩)) :=
  ⟨w3.heap.size, t, s, b, i, a, y, n, l, ps, pa, pm, pc, qs, rfl, rfl, Blk.new w3 _ _, rowK h1 ((Keeps.refl No w3).alloc _) (fun _ _ h => h), h2, ShsC.keep ((Keeps.refl No w3).alloc _) (fun _ _ h => h) _ _ h3, K.alloc _⟩
def zsh : List Value := [.string ⟨#[]⟩, .string ⟨#[]⟩, .string ⟨#[]⟩, .string ⟨#[]⟩, .string ⟨#[]⟩, .string ⟨#[]⟩, .int .i64 0, .int .i64 0, .slice none 0 0]
/-- A part's structure laid into a block that stood. -/
theorem kidAt_set {wr wz w3 : World} {g : Nat} {t s b i a y : List UInt8} {n l : Nat} {ps : List Sh} {pa : Option Addr} {pm pc : Nat} {qs : List (List Value)} (hg : wr.heap.size ≤ g) (hB : Blk w3 g zsh 46) (hgz : g < wz.heap.size) (h1 : w3.ownsRow 0 46 9 (.slice pa pm pc) ps.length qs.flatten) (h2 : ∀ x, (Value.slice pa pm pc).ownBlock = some x → wz.heap.size ≤ x)
    (h3 : ShsC w3 (fun x => wz.heap.size ≤ x) ps qs) (K : Keeps No wr w3) (_hz : wr.heap.size ≤ wz.heap.size) :
    KidAt wr (.mk t s b i a y n l ps) (((((((((w3.setCell ⟨g, 0, none⟩ (str t)).setCell ⟨g, 1, none⟩ (str s)).setCell ⟨g, 2, none⟩ (str b)).setCell ⟨g, 3, none⟩ (str i)).setCell ⟨g, 4, none⟩ (str a)).setCell ⟨g, 5, none⟩ (str y)).setCell ⟨g, 6, none⟩ (.int .i64 n)).setCell ⟨g, 7, none⟩ (.int .i64 l)).setCell ⟨g, 8, none⟩ (.slice pa pm pc)) (.pointer (some ⟨g, 0, none⟩)) := by
  have kk : Keeps (fun x => x = g) w3 (((((((((w3.setCell ⟨g, 0, none⟩ (str t)).setCell ⟨g, 1, none⟩ (str s)).setCell ⟨g, 2, none⟩ (str b)).setCell ⟨g, 3, none⟩ (str i)).setCell ⟨g, 4, none⟩ (str a)).setCell ⟨g, 5, none⟩ (str y)).setCell ⟨g, 6, none⟩ (.int .i64 n)).setCell ⟨g, 7, none⟩ (.int .i64 l)).setCell ⟨g, 8, none⟩ (.slice pa pm pc)) :=
    (((((((((Keeps.refl (fun x => x = g) w3).setCell (p := ⟨g, 0, none⟩) (.inl rfl) _).setCell (p := ⟨g, 1, none⟩) (.inl rfl) _).setCell (p := ⟨g, 2, none⟩) (.inl rfl) _).setCell (p := ⟨g, 3, none⟩) (.inl rfl) _).setCell (p := ⟨g, 4, none⟩) (.inl rfl) _).setCell (p := ⟨g, 5, none⟩) (.inl rfl) _).setCell (p := ⟨g, 6, none⟩) (.inl rfl) _).setCell (p := ⟨g, 7, none⟩) (.inl rfl) _).setCell (p := ⟨g, 8, none⟩) (.inl rfl) _
  have hb := ((((((((hB.set 0 (str t)).set 1 (str s)).set 2 (str b)).set 3 (str i)).set 4 (str a)).set 5 (str y)).set 6 (.int .i64 n)).set 7 (.int .i64 l)).set 8 (.slice pa pm pc)
  exact ⟨g, t, s, b, i, a, y, n, l, ps, pa, pm, pc, qs, rfl, rfl, hb.to rfl, rowK h1 kk (fun x hx e => by have := h2 x hx; omega), fun x hx => by have := h2 x hx; omega, ShsC.mono (fun x hx h => by omega) _ _ (ShsC.keep kk (fun x hx e => by omega) _ _ h3), K.trans kk (fun x hx e => by omega)⟩
/-- The end: the structure is handed out. -/
theorem shape_fin {w wq wr wF : World} {sh : Sh} {su : Bool} {t s b i a y : List UInt8} {n l : Nat} {ps : List Sh} {pa : Option Addr} {pm pc : Nat} {qs : List (List Value)} (K : Keeps No w wq) (hsz : w.heap.size + 3 ≤ wq.heap.size) (KR : Keeps (fun x => x = w.heap.size + 1 + 1) wq wr)
    (KF : Keeps (fun x => x = w.heap.size + 1 ∨ x = w.heap.size + 1 + 1) wr wF) (hrow : wr.ownsRow 0 46 9 (.slice pa pm pc) ps.length qs.flatten) (hpv : ∀ x, (Value.slice pa pm pc).ownBlock = some x → wq.heap.size ≤ x)
    (hss : ShsC wr (fun x => wq.heap.size ≤ x ∧ (Value.slice pa pm pc).ownBlock ≠ some x) ps qs) (hsh : sh = .mk t s b i a y n l ps) :
    ShPost sh su w (.returned (.tuple #[.agg #[str t, str s, str b, str i, str a, str y, .int .i64 n, .int .i64 l, .slice pa pm pc], .bool su])) wF := by
  refine ⟨t, s, b, i, a, y, n, l, ps, pa, pm, pc, qs, hsh, rfl, rowK hrow KF (fun x hx h => by have := hpv x hx; omega), fun x hx => by have := hpv x hx; omega, ?_, ?_⟩
  · exact ShsC.mono (fun x hx h => by have := h.1; omega) _ _ (ShsC.keep KF (fun x h e => by have := h.1; omega) _ _ hss)
  · exact (K.trans KR (fun x hx e => by omega)).trans KF (fun x hx e => by omega)
end Go.Proofs.YtjbbapodcngnaaaGreatDoor.G
namespace Go.Proofs.YtjbbapodcngnaaaGreatDoor.G
open Go.RowKit Hdr

theorem KidAt.keeps {wr wx : World} {sh : Sh} {v : Value} (h : KidAt wr sh wx v) : Keeps No wr wx := by
  obtain ⟨_, _, _, _, _, _, _, _, _, _, _, _, _, _, _, _, _, _, _, _, K⟩ := h
  exact K
def tts (ty : List UInt8) : List UInt8 := if ty = [] then textS else ty
def tss (ty sub : List UInt8) : List UInt8 := if ty = [] then plainS else sub
/-- The parts that have been told. -/
def PartsAt (b2 : Nat) (ty sub id ab way p : List UInt8) (kids : List Ml) (wc : World) (i : Nat) (s7 s8 : Value) (wr : World) : Prop :=
  ∃ (pv : Value) (qs : List (List Value)), s8 = .int .i64 i ∧ s7 = .bool (suresOf (kids.take i) p 0) ∧ Blk wr b2 (shc (tts ty) (tss ty sub) [] id ab way 0 0 pv) 46 ∧ wr.ownsRow 0 46 9 pv i qs.flatten ∧ (∀ b, pv.ownBlock = some b → wc.heap.size ≤ b) ∧
    ShsC wr (fun x => wc.heap.size ≤ x ∧ pv.ownBlock ≠ some x) (shapesOf (kids.take i) p 0) qs ∧ Keeps (fun x => x = b2) wc wr
/-- Where the loop begins. -/
structure StartAt (w : World) (mc : List Value) (ty sub id ab way : List UInt8) (wc : World) : Prop where
  B0 : Blk wc w.heap.size mc 42
  B1 : Blk wc (w.heap.size + 1) zsh 46
  B2 : Blk wc (w.heap.size + 1 + 1) (shc (tts ty) (tss ty sub) [] id ab way 0 0 (.slice none 0 0)) 46
  K : Keeps No w wc
  sz : w.heap.size + 3 ≤ wc.heap.size

set_option maxRecDepth 100000 in
set_option maxHeartbeats 8000000 in
theorem shape_node (ha : Option Addr) (hn hc : Nat) (kind : Int) (ty sub id ab way text : List UInt8) (ka : Option Addr) (kc : Nat) (kids : List Ml) (p C : List UInt8) (css : List (List Value)) (w : World) (sh : Sh) (su : Bool)
    (hm : MlsC w kids css) (hr : RowsAt w 9 (.slice ka kids.length kc) css) (hk : KidsShape w kids p) (hkn : kids.length ≤ 1000) (hp : p.length ≤ 100) (hCl : C.length ≤ 10000000)
    (hcont : ∀ W, Keeps No w W → Calls Tryz.prog 40 #[mlVal ha hn hc kind ty sub id ab way text ka kids.length kc, str p] W (StrTo C W))
    (h1 : kind = 1 → sh = .mk (tts ty) (tss ty sub) (bnd p) id ab way 0 0 (shapesOf kids p 0) ∧ su = suresOf kids p 0)
    (h2 : kind ≠ 1 → (tts ty = textS ∨ kind = 2) → sh = .mk (tts ty) (tss ty sub) [] id ab way C.length (nlf C) (shapesOf kids p 0) ∧ su = (suresOf kids p 0 && decide (C ≠ [])))
    (h3 : kind ≠ 1 → ¬ (tts ty = textS ∨ kind = 2) → sh = .mk (tts ty) (tss ty sub) [] id ab way C.length 0 (shapesOf kids p 0) ∧ su = suresOf kids p 0) :
    Calls Tryz.prog 16 #[mlVal ha hn hc kind ty sub id ab way text ka kids.length kc, str p] w (ShPost sh su w) := by
  have HM := Lib.hid hm
  have HR := Lib.hid hr
  have HKS := Lib.hid hk
  have HCO := Lib.hid hcont
  have H1 := Lib.hid h1
  have H2 := Lib.hid h2
  have H3 := Lib.hid h3
  unfold mlVal at HCO ⊢
  clear hm hr hk hcont h1 h2 h3
  go_enter Tryz.func16, Tryz.ntmps16
  go_upto_if 25 with (fail)
  go_cut [] (fun wx => StartAt w [.slice ha hn hc, .int .i64 kind, str ty, str sub, str id, str ab, str way, str text, .slice ka kids.length kc] ty sub id ab way wx)
  case first =>
    go_wp2
    · rename_i h0
      have ht : ty = [] := List.isEmpty_iff.1 h0
      have HT := Lib.hid (show tts ty = textS from if_pos ht)
      have HS := Lib.hid (show tss ty sub = plainS from if_pos ht)
      clear ht h0
      go_meet
      case rel =>
        obtain ⟨b0, b1, b2, k, s⟩ := three_blks w [.slice ha hn hc, .int .i64 kind, str ty, str sub, str id, str ab, str way, str text, .slice ka kids.length kc] zsh (shc textS plainS [] id ab way 0 0 (.slice none 0 0)) 42 46 46
        exact ⟨b0, b1, by rw [HT.out, HS.out]; exact b2, k, s⟩
    · rename_i h0
      have ht : ty ≠ [] := fun e => by rw [e] at h0; cases h0
      have HT := Lib.hid (show tts ty = ty from if_neg ht)
      have HS := Lib.hid (show tss ty sub = sub from if_neg ht)
      clear ht h0
      go_meet
      case rel =>
        obtain ⟨b0, b1, b2, k, s⟩ := three_blks w [.slice ha hn hc, .int .i64 kind, str ty, str sub, str id, str ab, str way, str text, .slice ka kids.length kc] zsh (shc ty sub [] id ab way 0 0 (.slice none 0 0)) 42 46 46
        exact ⟨b0, b1, by rw [HT.out, HS.out]; exact b2, k, s⟩
  case rest =>
    obtain ⟨wq, rfl⟩ : ∃ wq, wq = wc := ⟨wc, rfl⟩
    have HST := Lib.hid hcut
    clear hcut
    go_wp2
    go_loopg [7, 8] kids.length (fun q s7 s8 wr => ∃ i : Nat, i + q = kids.length ∧ PartsAt (w.heap.size + 1 + 1) ty sub id ab way p kids wq i s7 s8 wr)
    case atStart => exact ⟨0, by omega, .slice none 0 0, [], rfl, rfl, HST.out.B2, World.ownsRow_nil _ _ _ _, (fun b h => by cases h), by rw [List.take_zero, shapesOf_nil, ShsC_nil], Keeps.refl _ _⟩
    case round =>
      obtain ⟨i, hin, pv, qs, rfl, rfl, hb2, hrow, hpv, hss, KR⟩ := hrel
      have HIN := Lib.hid hin
      have HB2 := Lib.hid hb2
      have HROW := Lib.hid hrow
      have HPV := Lib.hid hpv
      have HSS := Lib.hid hss
      have HKR := Lib.hid KR
      have hssz := HST.out.sz
      have HL0 := Lib.hid (show Keeps No w wr from HST.out.K.trans KR (fun x hx e => by omega))
      have hb0 := HST.out.B0.keep KR (fun h => by omega)
      have HB0 := Lib.hid hb0
      have r8 : wr.cell? ⟨w.heap.size, 8, none⟩ = some (.slice ka kids.length kc) := hb0.cell 8
      obtain ⟨sv, hsv⟩ : ∃ sv, sv = suresOf (kids.take i) p 0 := ⟨_, rfl⟩
      rw [← hsv]
      have HSV := Lib.hid hsv
      clear hin hb2 hrow hpv hss KR hb0 hsv
      by_cases hi : i < kids.length
      · have hii : (i : Int) < (kids.length : Int) := by omega
        have hlt : decide ((i : Int) < (kids.length : Int)) = true := decide_eq_true hii
        obtain ⟨k, hkk⟩ : ∃ k, kids[i]? = some k := ⟨_, List.getElem?_eq_getElem hi⟩
        obtain ⟨b, o, kha, khc, kka, kkc, rfl, -, hcap, hmk, d0, d1, d2, d3, d4, d5, d6, d7, d8⟩ := kid_cells HM.out HR.out hkk
        have H16 := Lib.hid (HKS.out i k kha khc kka kkc hkk hmk)
        unfold mlVal at H16
        have H38 := Lib.hid (fun W => under_any p i W (by omega) (by omega))
        have HD := Lib.hid (show w.cell? ⟨b, o + i * 9, none⟩ = some (.slice kha k.head.length khc) ∧ w.cell? ⟨b, o + i * 9 + 1, none⟩ = some (.int .i64 k.kind) ∧ w.cell? ⟨b, o + i * 9 + 2, none⟩ = some (str k.type) ∧ w.cell? ⟨b, o + i * 9 + 3, none⟩ = some (str k.sub) ∧ w.cell? ⟨b, o + i * 9 + 4, none⟩ = some (str k.id) ∧ w.cell? ⟨b, o + i * 9 + 5, none⟩ = some (str k.about) ∧ w.cell? ⟨b, o + i * 9 + 6, none⟩ = some (str k.way) ∧ w.cell? ⟨b, o + i * 9 + 7, none⟩ = some (str k.text) ∧ w.cell? ⟨b, o + i * 9 + 8, none⟩ = some (.slice kka k.kids.length kkc) from ⟨d0, d1, d2, d3, d4, d5, d6, d7, d8⟩)
        have HSH := Lib.hid (shapesOf_take kids i k hkk p)
        have HSU := Lib.hid (suresOf_take kids i k hkk p)
        obtain ⟨shk, hshk⟩ : ∃ s, s = shapeOf k (under p i) := ⟨_, rfl⟩
        obtain ⟨suk, hsuk⟩ : ∃ s, s = sureOf k (under p i) := ⟨_, rfl⟩
        rw [← hshk, ← hsuk] at H16
        rw [← hshk] at HSH
        rw [← hsuk, ← HSV.out] at HSU
        obtain ⟨n1, hn1⟩ : ∃ n1, n1 = k.head.length := ⟨_, rfl⟩
        obtain ⟨n2, hn2⟩ : ∃ n2, n2 = k.kids.length := ⟨_, rfl⟩
        rw [← hn1, ← hn2] at HD H16
        clear d0 d1 d2 d3 d4 d5 d6 d7 d8 hn1 hn2 hmk hkk hshk hsuk
        go_upto_region 8 with (fail)
        clear r8
        go_cut [9, 10] (fun s9 s10 wx => s10 = .bool suk ∧ KidAt wr shk wx s9)
        case first =>
          refine region_tree (.fork [0, 1, 2, 3, 4, 5, 6] 7 (.fork [] 8 (.leaf [([9, 10, 11], 12), ([], 13)] []) 12 (.leaf [([], 8), ([9, 10, 11], 13)] [])) 12 (.leaf [([], 7), ([], 8), ([9, 10, 11], 13)] [])) 14 (fun W' => Keeps No wr W') (by kernel_rfl) (by kernel_rfl) ?_ ?_
          · exact (Keeps.refl No wr).drew
          rw [FT.wp]
          simp only [pick, List.filterMap_cons, List.filterMap_nil, List.getElem?_cons_succ, List.getElem?_cons_zero]
          intro ι F hne hF
          have k8 := fun i => (HB0.out.keep_no (hF i)).cell 8
          have x0 := fun i => (HL0.out.trans_no (hF i)).cell HD.out.1 (fun h => h)
          have x1 := fun i => (HL0.out.trans_no (hF i)).cell HD.out.2.1 (fun h => h)
          have x2 := fun i => (HL0.out.trans_no (hF i)).cell HD.out.2.2.1 (fun h => h)
          have x3 := fun i => (HL0.out.trans_no (hF i)).cell HD.out.2.2.2.1 (fun h => h)
          have x4 := fun i => (HL0.out.trans_no (hF i)).cell HD.out.2.2.2.2.1 (fun h => h)
          have x5 := fun i => (HL0.out.trans_no (hF i)).cell HD.out.2.2.2.2.2.1 (fun h => h)
          have x6 := fun i => (HL0.out.trans_no (hF i)).cell HD.out.2.2.2.2.2.2.1 (fun h => h)
          have x7 := fun i => (HL0.out.trans_no (hF i)).cell HD.out.2.2.2.2.2.2.2.1 (fun h => h)
          have x8 := fun i => (HL0.out.trans_no (hF i)).cell HD.out.2.2.2.2.2.2.2.2 (fun h => h)
          simp only [List.getElem?_cons_succ, List.getElem?_cons_zero] at k8
          clear hF
          repeat (quiet_step (fail))
          refine wpQuiet_nil ?_
          clear k8 x0 x1 x2 x3 x4 x5 x6 x7 x8 hne F ι
          have KD : Keeps No wr wr.drew := (Keeps.refl No wr).drew
          generalize wr.drew = wd at *
          have HKD := Lib.hid KD
          clear KD
          constructor
          · go_wp2_with (fail)
            refine (H38.out wd).mono ?_
            rintro e w2 ⟨rfl, K2⟩
            have HK2 := Lib.hid (HKD.out.trans_no K2)
            clear K2
            go_wp2
            refine EffPost.intro HK2.out ?_
            rw [FT.wp]
            simp only [pick, List.filterMap_cons, List.filterMap_nil, List.getElem?_cons_succ, List.getElem?_cons_zero]
            intro ι F hne hF
            clear hF
            refine wpQuiet_nil ?_
            clear hne F ι
            constructor
            · go_wp2_with (fail)
              refine (H16.out w2 (HL0.out.trans_no HK2.out)).mono ?_
              rintro e w3 ⟨t, s, b', i', a, y, n, l, ps, pa, pm, pc, qs', rfl, rfl, g1, g2, g3, K3⟩
              have HG1 := Lib.hid g1
              have HG2 := Lib.hid (show ∀ x, (Value.slice pa pm pc).ownBlock = some x → wr.heap.size ≤ x from fun x hx => by have := g2 x hx; have := HK2.out.size; omega)
              have HG3 := Lib.hid (ShsC.mono (B := fun x => wr.heap.size ≤ x) (fun x hx h => by have := HK2.out.size; omega) _ _ g3)
              have HK3 := Lib.hid (HK2.out.trans_no K3)
              clear g1 g2 g3 K3
              go_wp2
              refine EffPost.intro HK3.out ?_
              rw [FT.wp]
              simp only [segPick, List.map_cons, List.map_nil, pick, List.filterMap_cons, List.filterMap_nil, List.getElem?_cons_succ, List.getElem?_cons_zero, List.drop_succ_cons, List.drop_zero]
              rw [wpSegs]
              intro ι F hne hF
              clear hF
              repeat (quiet_step (fail))
              refine wpQuiet_nil ?_
              clear hne F ι
              go_wp2
              refine EffPost.intro (HK3.out.alloc _) ?_
              rw [wpSegs]
              intro ι F hne hF
              clear hF
              refine wpQuiet_nil ?_
              clear hne F ι
              go_wp2
              refine EffPost.intro (HK3.out.alloc _) ?_
              rw [wpSegs]
              intro ι F hne hF
              clear hF
              refine wpQuiet_nil ?_
              clear hne F ι
              go_wp2
              go_meet
              case rel => exact ⟨rfl, kidAt_alloc HG1.out HG2.out HG3.out HK3.out⟩
            · go_wp2
              refine EffPost.intro (HK2.out.alloc _) ?_
              rw [FT.wp]
              simp only [segPick, List.map_cons, List.map_nil, pick, List.filterMap_cons, List.filterMap_nil, List.getElem?_cons_succ, List.getElem?_cons_zero, List.drop_succ_cons, List.drop_zero]
              have hz := Blk.new w2 zsh 46
              have kz : Keeps No wr (w2.alloc (.cells #[.string ⟨#[]⟩, .string ⟨#[]⟩, .string ⟨#[]⟩, .string ⟨#[]⟩, .string ⟨#[]⟩, .string ⟨#[]⟩, .int .i64 0, .int .i64 0, .slice none 0 0] 46)) := HK2.out.alloc _
              have hgz : w2.heap.size < (w2.alloc (.cells #[.string ⟨#[]⟩, .string ⟨#[]⟩, .string ⟨#[]⟩, .string ⟨#[]⟩, .string ⟨#[]⟩, .string ⟨#[]⟩, .int .i64 0, .int .i64 0, .slice none 0 0] 46)).heap.size := by simp
              have hzz : Blk (w2.alloc (.cells #[.string ⟨#[]⟩, .string ⟨#[]⟩, .string ⟨#[]⟩, .string ⟨#[]⟩, .string ⟨#[]⟩, .string ⟨#[]⟩, .int .i64 0, .int .i64 0, .slice none 0 0] 46)) w2.heap.size zsh 46 := hz
              clear hz
              generalize (w2.alloc (.cells #[.string ⟨#[]⟩, .string ⟨#[]⟩, .string ⟨#[]⟩, .string ⟨#[]⟩, .string ⟨#[]⟩, .string ⟨#[]⟩, .int .i64 0, .int .i64 0, .slice none 0 0] 46)) = wz at *
              have HZ := Lib.hid hzz
              have HGZ := Lib.hid hgz
              have HKZ := Lib.hid kz
              have HGB := Lib.hid HK2.out.size
              clear hzz hgz kz
              rw [wpSegs]
              intro ι F hne hF
              clear hF
              refine wpQuiet_nil ?_
              clear hne F ι
              go_wp2_with (fail)
              refine (H16.out wz (HL0.out.trans_no HKZ.out)).mono ?_
              rintro e w3 ⟨t, s, b', i', a, y, n, l, ps, pa, pm, pc, qs', rfl, rfl, g1, g2, g3, K3⟩
              have HGZ2 := HGZ
              have B3 := (HZ.out).keep_no K3
              have fz := B3.frozen
              have z0 := B3.cell 0
              have z1 := B3.cell 1
              have z2 := B3.cell 2
              have z3 := B3.cell 3
              have z4 := B3.cell 4
              have z5 := B3.cell 5
              have z6 := B3.cell 6
              have z7 := B3.cell 7
              have z8 := B3.cell 8
              simp only [zsh, List.getElem?_cons_succ, List.getElem?_cons_zero] at z0 z1 z2 z3 z4 z5 z6 z7 z8
              have HK3 := Lib.hid ((HKZ.out).trans_no K3)
              have HKA := Lib.hid (kidAt_set (t := t) (s := s) (b := b') (i := i') (a := a) (y := y) (n := n) (l := l) HGB.out B3 (HGZ2.out) g1 g2 g3 HK3.out (HKZ.out).size)
              clear B3 g1 g2 g3 K3
              go_wp2
              refine EffPost.intro HK3.out ?_
              rw [wpSegs]
              intro ι F hne hF
              clear hF
              repeat (quiet_step (fail))
              refine wpQuiet_nil ?_
              clear hne F ι
              go_wp2
              refine EffPost.intro HKA.out.keeps ?_
              rw [wpSegs]
              intro ι F hne hF
              clear hF
              refine wpQuiet_nil ?_
              clear hne F ι
              go_wp2
              go_meet
              case rel => exact ⟨rfl, HKA.out⟩
          · go_wp2
            refine EffPost.intro (HKD.out.alloc _) ?_
            rw [FT.wp]
            simp only [segPick, List.map_cons, List.map_nil, pick, List.filterMap_cons, List.filterMap_nil, List.getElem?_cons_succ, List.getElem?_cons_zero, List.drop_succ_cons, List.drop_zero]
            have hz := Blk.new wd zsh 46
            have kz : Keeps No wr (wd.alloc (.cells #[.string ⟨#[]⟩, .string ⟨#[]⟩, .string ⟨#[]⟩, .string ⟨#[]⟩, .string ⟨#[]⟩, .string ⟨#[]⟩, .int .i64 0, .int .i64 0, .slice none 0 0] 46)) := HKD.out.alloc _
            have hgz : wd.heap.size < (wd.alloc (.cells #[.string ⟨#[]⟩, .string ⟨#[]⟩, .string ⟨#[]⟩, .string ⟨#[]⟩, .string ⟨#[]⟩, .string ⟨#[]⟩, .int .i64 0, .int .i64 0, .slice none 0 0] 46)).heap.size := by simp
            have hzz : Blk (wd.alloc (.cells #[.string ⟨#[]⟩, .string ⟨#[]⟩, .string ⟨#[]⟩, .string ⟨#[]⟩, .string ⟨#[]⟩, .string ⟨#[]⟩, .int .i64 0, .int .i64 0, .slice none 0 0] 46)) wd.heap.size zsh 46 := hz
            clear hz
            generalize (wd.alloc (.cells #[.string ⟨#[]⟩, .string ⟨#[]⟩, .string ⟨#[]⟩, .string ⟨#[]⟩, .string ⟨#[]⟩, .string ⟨#[]⟩, .int .i64 0, .int .i64 0, .slice none 0 0] 46)) = wz at *
            have HZ := Lib.hid hzz
            have HGZ := Lib.hid hgz
            have HKZ := Lib.hid kz
            have HGB := Lib.hid HKD.out.size
            clear hzz hgz kz
            rw [wpSegs]
            intro ι F hne hF
            clear hF
            refine wpQuiet_nil ?_
            clear hne F ι
            go_wp2_with (fail)
            refine (H38.out wz).mono ?_
            rintro e w2 ⟨rfl, K2⟩
            have HK2 := Lib.hid (HKZ.out.trans_no K2)
            have HZ2 := Lib.hid (HZ.out.keep_no K2)
            have HGZ2 := Lib.hid (show wd.heap.size < w2.heap.size by have := HGZ.out; have := K2.size; omega)
            clear K2
            go_wp2
            refine EffPost.intro HK2.out ?_
            rw [wpSegs]
            intro ι F hne hF
            clear hF
            refine wpQuiet_nil ?_
            clear hne F ι
            go_wp2_with (fail)
            refine (H16.out w2 (HL0.out.trans_no HK2.out)).mono ?_
            rintro e w3 ⟨t, s, b', i', a, y, n, l, ps, pa, pm, pc, qs', rfl, rfl, g1, g2, g3, K3⟩
            have B3 := (HZ2.out).keep_no K3
            have fz := B3.frozen
            have z0 := B3.cell 0
            have z1 := B3.cell 1
            have z2 := B3.cell 2
            have z3 := B3.cell 3
            have z4 := B3.cell 4
            have z5 := B3.cell 5
            have z6 := B3.cell 6
            have z7 := B3.cell 7
            have z8 := B3.cell 8
            simp only [zsh, List.getElem?_cons_succ, List.getElem?_cons_zero] at z0 z1 z2 z3 z4 z5 z6 z7 z8
            have HK3 := Lib.hid ((HK2.out).trans_no K3)
            have HKA := Lib.hid (kidAt_set (t := t) (s := s) (b := b') (i := i') (a := a) (y := y) (n := n) (l := l) HGB.out B3 (HGZ2.out) g1 g2 g3 HK3.out (HK2.out).size)
            clear B3 g1 g2 g3 K3
            go_wp2
            refine EffPost.intro HK3.out ?_
            rw [wpSegs]
            intro ι F hne hF
            clear hF
            repeat (quiet_step (fail))
            refine wpQuiet_nil ?_
            clear hne F ι
            go_wp2
            refine EffPost.intro HKA.out.keeps ?_
            rw [wpSegs]
            intro ι F hne hF
            clear hF
            refine wpQuiet_nil ?_
            clear hne F ι
            go_wp2
            go_meet
            case rel => exact ⟨rfl, HKA.out⟩
        case rest =>
          obtain ⟨rfl, g, t, s, b', i', a, y, n, l, ps, pa, pm, pc, qs', rfl, rfl, hB, hrw, hown, hks, KX⟩ := hcut
          have hkC : ShC wc (fun x => wr.heap.size ≤ x) (.mk t s b' i' a y n l ps) (shc t s b' i' a y n l (.slice pa pm pc)) := by
            rw [ShC_eq]
            exact ⟨_, qs', rfl, hrw, hown, hks⟩
          have hone := hkC.one
          obtain ⟨fa, fc, rfl⟩ := rowVn HROW.out
          have hb2x := HB2.out.keep_no KX
          have p8 : wc.cell? ⟨w.heap.size + 1 + 1, 8, none⟩ = some (.slice fa i fc) := hb2x.cell 8
          have k0 := hB.cell 0
          have k1 := hB.cell 1
          have k2 := hB.cell 2
          have k3 := hB.cell 3
          have k4 := hB.cell 4
          have k5 := hB.cell 5
          have k6 := hB.cell 6
          have k7 := hB.cell 7
          have k8 := hB.cell 8
          simp only [List.getElem?_cons_succ, List.getElem?_cons_zero] at k0 k1 k2 k3 k4 k5 k6 k7 k8
          have kal : Keeps No wc (wc.alloc (.cells #[str t, str s, str b', str i', str a, str y, .int .i64 n, .int .i64 l, .slice pa pm pc] 46)) := (Keeps.refl No wc).alloc _
          have HOWN := Lib.hid (show (wc.alloc (.cells #[str t, str s, str b', str i', str a, str y, .int .i64 n, .int .i64 l, .slice pa pm pc] 46)).ownsRow 0 46 9 (.slice fa i fc) i qs.flatten from rowK (rowK HROW.out KX (fun _ _ h => h)) kal (fun _ _ h => h))
          have HBN := Lib.hid (show Blk (wc.alloc (.cells #[str t, str s, str b', str i', str a, str y, .int .i64 n, .int .i64 l, .slice pa pm pc] 46)) wc.heap.size [str t, str s, str b', str i', str a, str y, .int .i64 n, .int .i64 l, .slice pa pm pc] 46 from Blk.new wc _ _)
          have HON := Lib.hid (show ∀ u ∈ ([str t, str s, str b', str i', str a, str y, .int .i64 n, .int .i64 l, .slice pa pm pc] : List Value), u.oneCell' = true from hone)
          have hpb : ¬ (Value.slice fa i fc).ownBlock = some (w.heap.size + 1 + 1) := fun e => by have := HPV.out _ e; omega
          have HFZ := Lib.hid (fun (W : World) (KW : Keeps (fun k => (Value.slice fa i fc).ownBlock = some k) (wc.alloc (.cells #[str t, str s, str b', str i', str a, str y, .int .i64 n, .int .i64 l, .slice pa pm pc] 46)) W) => ((hb2x.keep_no kal).keep KW hpb).frozen 8)
          have HFC := Lib.hid (fun (W : World) (KW : Keeps (fun k => (Value.slice fa i fc).ownBlock = some k) (wc.alloc (.cells #[str t, str s, str b', str i', str a, str y, .int .i64 n, .int .i64 l, .slice pa pm pc] 46)) W) => show W.cell? ⟨w.heap.size + 1 + 1, 8, none⟩ = some (.slice fa i fc) from ((hb2x.keep_no kal).keep KW hpb).cell 8)
          have HP := Lib.hid (fun (W : World) (v' : Value) hv KW hvo => parts_step (wz := (wc.alloc (.cells #[str t, str s, str b', str i', str a, str y, .int .i64 n, .int .i64 l, .slice pa pm pc] 46))) (W := W) (v' := v') (b2 := w.heap.size + 1 + 1) (by omega) HKR.out HB2.out HROW.out HPV.out HSS.out KX hkC kal hv KW hvo)
          have hw1 : IntKind.i64.wrap ((i : Int) + 1) = (i : Int) + 1 := IntWalk.i64_in _ (by omega)
          clear hkC hone hb2x hB hrw hown hks KX kal hpb
          cases sv with
          | false =>
            go_wp2_with (at_builtin; refine wpList_append_sh rfl (.tmp 48) (.tmp 50) rfl i _ qs.flatten [str t, str s, str b', str i', str a, str y, .int .i64 n, .int .i64 l, .slice pa pm pc] rfl HOWN.out wc.heap.size 1 rfl HBN.out rfl HON.out (by omega) ?_; intro v' W hv KW hvo; have fzW := HFZ.out W KW; have fcW := HFC.out W KW; have HPP := Lib.hid (HP.out W v' hv KW hvo); obtain ⟨va, vc, rfl⟩ := rowVn hv; clear hv KW hvo)
            go_wp2
            go_roundg (gk - 1)
            case measure => have := HIN.out; omega
            case rel => exact ⟨i + 1, by have := HIN.out; omega, _, _, by simp, by rw [HSU.out]; rfl, HPP.out.1, HPP.out.2.1, HPP.out.2.2.1, by rw [HSH.out]; exact HPP.out.2.2.2.1, HPP.out.2.2.2.2⟩
          | true =>
            go_wp2_with (at_builtin; refine wpList_append_sh rfl (.tmp 48) (.tmp 50) rfl i _ qs.flatten [str t, str s, str b', str i', str a, str y, .int .i64 n, .int .i64 l, .slice pa pm pc] rfl HOWN.out wc.heap.size 1 rfl HBN.out rfl HON.out (by omega) ?_; intro v' W hv KW hvo; have fzW := HFZ.out W KW; have fcW := HFC.out W KW; have HPP := Lib.hid (HP.out W v' hv KW hvo); obtain ⟨va, vc, rfl⟩ := rowVn hv; clear hv KW hvo)
            go_wp2
            go_roundg (gk - 1)
            case measure => have := HIN.out; omega
            case rel => exact ⟨i + 1, by have := HIN.out; omega, _, _, by simp, by rw [HSU.out]; rfl, HPP.out.1, HPP.out.2.1, HPP.out.2.2.1, by rw [HSH.out]; exact HPP.out.2.2.2.1, HPP.out.2.2.2.2⟩
      · have hii : ¬ ((i : Int) < (kids.length : Int)) := by omega
        have hlt : decide ((i : Int) < (kids.length : Int)) = false := decide_eq_false hii
        have hte : kids.take i = kids := List.take_of_length_le (by omega)
        have hil : i = (shapesOf kids p 0).length := by rw [shapesOf_len]; have := HIN.out; omega
        have hss' := HSS.out
        have hsv' := HSV.out
        rw [hte] at hss' hsv'
        have hrow' := HROW.out
        obtain ⟨fa, fc, rfl⟩ := rowVn hrow'
        have HROWF := Lib.hid (show wr.ownsRow 0 46 9 (.slice fa i fc) (shapesOf kids p 0).length qs.flatten from hil ▸ hrow')
        have HSSF := Lib.hid hss'
        have HSVF := Lib.hid hsv'
        have r1 : wr.cell? ⟨w.heap.size, 1, none⟩ = some (.int .i64 kind) := HB0.out.cell 1
        have HB1 := Lib.hid (HST.out.B1.keep HKR.out (fun h => by omega))
        clear hte hil hss' hsv' hrow' HSS HSV HROW
        by_cases hk1 : kind = 1
        · have e1 : (kind == 1) = true := by rw [hk1]; rfl
          have HSHE := Lib.hid (H1.out hk1)
          have hfz2 := HB2.out.frozen
          have hc2 : wr.cell? ⟨w.heap.size + 1 + 1, 2, none⟩ = some (str []) := HB2.out.cell 2
          clear hk1
          go_wp2_with (fail)
          refine (bnd_any p wr (by omega)).mono ?_
          rintro e w2 ⟨rfl, rfl⟩
          go_upto_region 12 with (fail)
          have hset := (HB2.out.set 2 (str (bnd p))).to (show (shc (tts ty) (tss ty sub) [] id ab way 0 0 (.slice fa i fc)).set 2 (str (bnd p)) = shc (tts ty) (tss ty sub) (bnd p) id ab way 0 0 (.slice fa i fc) from rfl)
          have hset1 := HB1.out.set_other (p := ⟨w.heap.size + 1 + 1, 2, none⟩) (show w.heap.size + 1 + 1 ≠ w.heap.size + 1 by omega) (str (bnd p))
          have kset : Keeps (fun x => x = w.heap.size + 1 ∨ x = w.heap.size + 1 + 1) w2 (w2.setCell ⟨w.heap.size + 1 + 1, 2, none⟩ (str (bnd p))) := (Keeps.refl (fun x => x = w.heap.size + 1 ∨ x = w.heap.size + 1 + 1) w2).setCell (p := ⟨w.heap.size + 1 + 1, 2, none⟩) (.inl (.inr rfl)) _
          generalize (w2.setCell ⟨w.heap.size + 1 + 1, 2, none⟩ (str (bnd p))) = w3 at *
          have HB2f := Lib.hid hset
          have HB1f := Lib.hid hset1
          have HK3 := Lib.hid kset
          clear hset hset1 kset hfz2 r1 r8 hc2
          rw [← HSVF.out] at HSHE
          obtain ⟨hsh1, hsu1⟩ := HSHE.out
          have HSH1 := Lib.hid hsh1
          clear HSHE hsh1
          subst hsu1
          have B2f := HB2f.out
          have B1f := HB1f.out
          have c0 := B2f.cell 0
          have c1 := B2f.cell 1
          have c2 := B2f.cell 2
          have c3 := B2f.cell 3
          have c4 := B2f.cell 4
          have c5 := B2f.cell 5
          have c6 := B2f.cell 6
          have c7 := B2f.cell 7
          have c8 := B2f.cell 8
          have z0 := B1f.cell 0
          have z1 := B1f.cell 1
          have z2 := B1f.cell 2
          have z3 := B1f.cell 3
          have z4 := B1f.cell 4
          have z5 := B1f.cell 5
          have z6 := B1f.cell 6
          have z7 := B1f.cell 7
          have z8 := B1f.cell 8
          have fz1 := B1f.frozen
          simp only [shc, zsh, List.getElem?_cons_succ, List.getElem?_cons_zero] at c0 c1 c2 c3 c4 c5 c6 c7 c8 z0 z1 z2 z3 z4 z5 z6 z7 z8
          have HFIN := Lib.hid (((((((((B1f.set 0 (str (tts ty))).set 1 (str (tss ty sub))).set 2 (str (bnd p))).set 3 (str id)).set 4 (str ab)).set 5 (str way)).set 6 (.int .i64 0)).set 7 (.int .i64 0)).set 8 (.slice fa i fc))
          have HKF := Lib.hid (HK3.out.trans' ((((((((((Keeps.refl (fun x => x = w.heap.size + 1 ∨ x = w.heap.size + 1 + 1) w3).setCell (p := ⟨w.heap.size + 1, 0, none⟩) (.inl (.inl rfl)) (str (tts ty))).setCell (p := ⟨w.heap.size + 1, 1, none⟩) (.inl (.inl rfl)) (str (tss ty sub))).setCell (p := ⟨w.heap.size + 1, 2, none⟩) (.inl (.inl rfl)) (str (bnd p))).setCell (p := ⟨w.heap.size + 1, 3, none⟩) (.inl (.inl rfl)) (str id)).setCell (p := ⟨w.heap.size + 1, 4, none⟩) (.inl (.inl rfl)) (str ab)).setCell (p := ⟨w.heap.size + 1, 5, none⟩) (.inl (.inl rfl)) (str way)).setCell (p := ⟨w.heap.size + 1, 6, none⟩) (.inl (.inl rfl)) (.int .i64 0)).setCell (p := ⟨w.heap.size + 1, 7, none⟩) (.inl (.inl rfl)) (.int .i64 0)).setCell (p := ⟨w.heap.size + 1, 8, none⟩) (.inl (.inl rfl)) (.slice fa i fc)))
          clear B2f B1f
          go_wp2
          refine bodyPost_ret (results_ct rfl _ _ (w.heap.size + 1) _ rfl (load_sh _ _ _ _ _ _ _ _ _ _ _ HFIN.out)) rfl ?_
          exact shape_fin HST.out.K hssz HKR.out HKF.out HROWF.out HPV.out HSSF.out HSH1.out
        · have e1 : (kind == 1) = false := beq_eq_false_iff_ne.2 hk1
          have HKN1 := Lib.hid hk1
          have m0 := HB0.out.cell 0
          have m1 := HB0.out.cell 1
          have m2 := HB0.out.cell 2
          have m3 := HB0.out.cell 3
          have m4 := HB0.out.cell 4
          have m5 := HB0.out.cell 5
          have m6 := HB0.out.cell 6
          have m7 := HB0.out.cell 7
          have m8 := HB0.out.cell 8
          simp only [List.getElem?_cons_succ, List.getElem?_cons_zero] at m0 m1 m2 m3 m4 m5 m6 m7 m8
          clear hk1
          go_wp2_with (fail)
          refine (HCO.out wr HL0.out).mono ?_
          rintro e w2 ⟨rfl, K2⟩
          have hfz2 := (HB2.out.keep_no K2).frozen
          have hc6 : w2.cell? ⟨w.heap.size + 1 + 1, 6, none⟩ = some (.int .i64 0) := (HB2.out.keep_no K2).cell 6
          have HB2f := Lib.hid (HB2.out.keep_no K2)
          have HB1f := Lib.hid (HB1.out.keep_no K2)
          have HB0f := Lib.hid (HB0.out.keep_no K2)
          have HK2 := Lib.hid K2
          have hlc := str_len C
          clear m0 m1 m2 m3 m4 m5 m6 m7 m8 r1 r8 K2
          go_upto_region 15 with (fail)
          have hset := (HB2f.out.set 6 (.int .i64 (C.length : Int))).to (show (shc (tts ty) (tss ty sub) [] id ab way 0 0 (.slice fa i fc)).set 6 (.int .i64 (C.length : Int)) = shc (tts ty) (tss ty sub) [] id ab way C.length 0 (.slice fa i fc) from rfl)
          have hset1 := HB1f.out.set_other (p := ⟨w.heap.size + 1 + 1, 6, none⟩) (show w.heap.size + 1 + 1 ≠ w.heap.size + 1 by omega) (.int .i64 (C.length : Int))
          have hset0 := HB0f.out.set_other (p := ⟨w.heap.size + 1 + 1, 6, none⟩) (show w.heap.size + 1 + 1 ≠ w.heap.size by omega) (.int .i64 (C.length : Int))
          have kset : Keeps (fun x => x = w.heap.size + 1 ∨ x = w.heap.size + 1 + 1) w2 (w2.setCell ⟨w.heap.size + 1 + 1, 6, none⟩ (.int .i64 (C.length : Int))) := (Keeps.refl (fun x => x = w.heap.size + 1 ∨ x = w.heap.size + 1 + 1) w2).setCell (p := ⟨w.heap.size + 1 + 1, 6, none⟩) (.inl (.inr rfl)) _
          generalize (w2.setCell ⟨w.heap.size + 1 + 1, 6, none⟩ (.int .i64 (C.length : Int))) = w3 at *
          have HB2g := Lib.hid hset
          have HB1g := Lib.hid hset1
          have HB0g := Lib.hid hset0
          have HK3 := Lib.hid ((HK2.out.of_no (T := fun x => x = w.heap.size + 1 ∨ x = w.heap.size + 1 + 1)).trans' kset)
          clear hset hset1 hset0 kset hfz2 hc6 HB2f HB1f HB0f HK2
          have HB2f := HB2g
          have HB1f := HB1g
          have HB0f := HB0g
          clear HB2g HB1g HB0g
          have t0 : w3.cell? ⟨w.heap.size + 1 + 1, 0, none⟩ = some (str (tts ty)) := HB2f.out.cell 0
          have t1 : w3.cell? ⟨w.heap.size, 1, none⟩ = some (.int .i64 kind) := HB0f.out.cell 1
          obtain ⟨tb, htb⟩ : ∃ b, (tts ty == [116, 101, 120, 116]) = b := ⟨_, rfl⟩
          have HTB := Lib.hid (show tb = true → tts ty = textS from fun h => by rw [h] at htb; exact eq_of_beq htb)
          have HTN := Lib.hid (show tb = false → tts ty ≠ textS from fun h e => by rw [h, e] at htb; revert htb; decide)
          obtain ⟨kb, hkb⟩ : ∃ b, (kind == 2) = b := ⟨_, rfl⟩
          have HKB := Lib.hid (show kb = true → kind = 2 from fun h => by rw [h] at hkb; exact eq_of_beq hkb)
          have HKN := Lib.hid (show kb = false → kind ≠ 2 from fun h e => by rw [h, e] at hkb; cases hkb)
          have hor : (tb = true ∨ kb = true) ∨ (tb = false ∧ kb = false) := by cases tb <;> cases kb <;> simp
          rcases hor with hor | ⟨rfl, rfl⟩
          · have HSHE := Lib.hid (H2.out HKN1.out (hor.imp HTB.out HKB.out))
            have HOR := Lib.hid hor
            clear hor
            go_cut [78] (fun s78 wx => s78 = .bool true ∧ wx = w3)
            case first =>
              rcases HOR.out with rfl | rfl
              · go_wp2
                go_meet
                case rel => exact ⟨rfl, rfl⟩
              · cases tb
                · go_wp2
                  go_meet
                  case rel => exact ⟨rfl, rfl⟩
                · go_wp2
                  go_meet
                  case rel => exact ⟨rfl, rfl⟩
            case rest =>
              obtain ⟨rfl, rfl⟩ := hcut
              have hfz2 := HB2f.out.frozen
              have hc7 : wc.cell? ⟨w.heap.size + 1 + 1, 7, none⟩ = some (.int .i64 0) := HB2f.out.cell 7
              clear t0 t1
              go_wp2_with (fail)
              refine (lines_any C wc (by omega)).mono ?_
              rintro e w4 ⟨rfl, rfl⟩
              go_upto_region 17 with (fail)
              have hset := (HB2f.out.set 7 (.int .i64 (nlf C : Int))).to (show (shc (tts ty) (tss ty sub) [] id ab way C.length 0 (.slice fa i fc)).set 7 (.int .i64 (nlf C : Int)) = shc (tts ty) (tss ty sub) [] id ab way C.length (nlf C) (.slice fa i fc) from rfl)
              have hset1 := HB1f.out.set_other (p := ⟨w.heap.size + 1 + 1, 7, none⟩) (show w.heap.size + 1 + 1 ≠ w.heap.size + 1 by omega) (.int .i64 (nlf C : Int))
              have hset0 := HB0f.out.set_other (p := ⟨w.heap.size + 1 + 1, 7, none⟩) (show w.heap.size + 1 + 1 ≠ w.heap.size by omega) (.int .i64 (nlf C : Int))
              have kset : Keeps (fun x => x = w.heap.size + 1 ∨ x = w.heap.size + 1 + 1) w4 (w4.setCell ⟨w.heap.size + 1 + 1, 7, none⟩ (.int .i64 (nlf C : Int))) := (Keeps.refl (fun x => x = w.heap.size + 1 ∨ x = w.heap.size + 1 + 1) w4).setCell (p := ⟨w.heap.size + 1 + 1, 7, none⟩) (.inl (.inr rfl)) _
              generalize (w4.setCell ⟨w.heap.size + 1 + 1, 7, none⟩ (.int .i64 (nlf C : Int))) = w5 at *
              have HB2g := Lib.hid hset
              have HB1g := Lib.hid hset1
              have HK5 := Lib.hid (HK3.out.trans' kset)
              clear hset hset1 hset0 kset hfz2 hc7 HB2f HB1f HB0f HK3
              have HB2f := HB2g
              have HB1f := HB1g
              clear HB2g HB1g htb hkb
              rw [← HSVF.out] at HSHE
              obtain ⟨hsh1, hsu1⟩ := HSHE.out
              have HSH1 := Lib.hid hsh1
              clear HSHE hsh1
              have cbe : (C == []) = decide (C = []) := by rw [Bool.eq_iff_iff, beq_iff_eq, decide_eq_true_iff]
              have cbi : C.isEmpty = decide (C = []) := by cases C <;> simp
              obtain ⟨cb, hcb⟩ : ∃ b, decide (C = []) = b := ⟨_, rfl⟩
              rw [hcb] at cbe cbi
              have hsu2 : su = (sv && !cb) := by rw [hsu1, ← hcb]; simp
              clear hsu1 hcb
              cases sv with
              | false =>
                have hsu3 : su = false := by rw [hsu2]; rfl
                clear hsu2
                subst hsu3
                have B2f := HB2f.out
                have B1f := HB1f.out
                have c0 := B2f.cell 0
                have c1 := B2f.cell 1
                have c2 := B2f.cell 2
                have c3 := B2f.cell 3
                have c4 := B2f.cell 4
                have c5 := B2f.cell 5
                have c6 := B2f.cell 6
                have c7 := B2f.cell 7
                have c8 := B2f.cell 8
                have z0 := B1f.cell 0
                have z1 := B1f.cell 1
                have z2 := B1f.cell 2
                have z3 := B1f.cell 3
                have z4 := B1f.cell 4
                have z5 := B1f.cell 5
                have z6 := B1f.cell 6
                have z7 := B1f.cell 7
                have z8 := B1f.cell 8
                have fz1 := B1f.frozen
                simp only [shc, zsh, List.getElem?_cons_succ, List.getElem?_cons_zero] at c0 c1 c2 c3 c4 c5 c6 c7 c8 z0 z1 z2 z3 z4 z5 z6 z7 z8
                have HFIN := Lib.hid (((((((((B1f.set 0 (str (tts ty))).set 1 (str (tss ty sub))).set 2 (str [])).set 3 (str id)).set 4 (str ab)).set 5 (str way)).set 6 (.int .i64 (C.length : Int))).set 7 (.int .i64 (nlf C : Int))).set 8 (.slice fa i fc))
                have HKF := Lib.hid (HK5.out.trans' ((((((((((Keeps.refl (fun x => x = w.heap.size + 1 ∨ x = w.heap.size + 1 + 1) w5).setCell (p := ⟨w.heap.size + 1, 0, none⟩) (.inl (.inl rfl)) (str (tts ty))).setCell (p := ⟨w.heap.size + 1, 1, none⟩) (.inl (.inl rfl)) (str (tss ty sub))).setCell (p := ⟨w.heap.size + 1, 2, none⟩) (.inl (.inl rfl)) (str [])).setCell (p := ⟨w.heap.size + 1, 3, none⟩) (.inl (.inl rfl)) (str id)).setCell (p := ⟨w.heap.size + 1, 4, none⟩) (.inl (.inl rfl)) (str ab)).setCell (p := ⟨w.heap.size + 1, 5, none⟩) (.inl (.inl rfl)) (str way)).setCell (p := ⟨w.heap.size + 1, 6, none⟩) (.inl (.inl rfl)) (.int .i64 (C.length : Int))).setCell (p := ⟨w.heap.size + 1, 7, none⟩) (.inl (.inl rfl)) (.int .i64 (nlf C : Int))).setCell (p := ⟨w.heap.size + 1, 8, none⟩) (.inl (.inl rfl)) (.slice fa i fc)))
                clear B2f B1f
                go_wp2
                refine bodyPost_ret (results_ct rfl _ _ (w.heap.size + 1) _ rfl (load_sh _ _ _ _ _ _ _ _ _ _ _ HFIN.out)) rfl ?_
                exact shape_fin HST.out.K hssz HKR.out HKF.out HROWF.out HPV.out HSSF.out HSH1.out
              | true =>
                have hsu3 : su = !cb := by rw [hsu2]; rfl
                clear hsu2
                cases cb with
                | false =>
                  have hsu4 : su = true := hsu3
                  clear hsu3
                  subst hsu4
                  have B2f := HB2f.out
                  have B1f := HB1f.out
                  have c0 := B2f.cell 0
                  have c1 := B2f.cell 1
                  have c2 := B2f.cell 2
                  have c3 := B2f.cell 3
                  have c4 := B2f.cell 4
                  have c5 := B2f.cell 5
                  have c6 := B2f.cell 6
                  have c7 := B2f.cell 7
                  have c8 := B2f.cell 8
                  have z0 := B1f.cell 0
                  have z1 := B1f.cell 1
                  have z2 := B1f.cell 2
                  have z3 := B1f.cell 3
                  have z4 := B1f.cell 4
                  have z5 := B1f.cell 5
                  have z6 := B1f.cell 6
                  have z7 := B1f.cell 7
                  have z8 := B1f.cell 8
                  have fz1 := B1f.frozen
                  simp only [shc, zsh, List.getElem?_cons_succ, List.getElem?_cons_zero] at c0 c1 c2 c3 c4 c5 c6 c7 c8 z0 z1 z2 z3 z4 z5 z6 z7 z8
                  have HFIN := Lib.hid (((((((((B1f.set 0 (str (tts ty))).set 1 (str (tss ty sub))).set 2 (str [])).set 3 (str id)).set 4 (str ab)).set 5 (str way)).set 6 (.int .i64 (C.length : Int))).set 7 (.int .i64 (nlf C : Int))).set 8 (.slice fa i fc))
                  have HKF := Lib.hid (HK5.out.trans' ((((((((((Keeps.refl (fun x => x = w.heap.size + 1 ∨ x = w.heap.size + 1 + 1) w5).setCell (p := ⟨w.heap.size + 1, 0, none⟩) (.inl (.inl rfl)) (str (tts ty))).setCell (p := ⟨w.heap.size + 1, 1, none⟩) (.inl (.inl rfl)) (str (tss ty sub))).setCell (p := ⟨w.heap.size + 1, 2, none⟩) (.inl (.inl rfl)) (str [])).setCell (p := ⟨w.heap.size + 1, 3, none⟩) (.inl (.inl rfl)) (str id)).setCell (p := ⟨w.heap.size + 1, 4, none⟩) (.inl (.inl rfl)) (str ab)).setCell (p := ⟨w.heap.size + 1, 5, none⟩) (.inl (.inl rfl)) (str way)).setCell (p := ⟨w.heap.size + 1, 6, none⟩) (.inl (.inl rfl)) (.int .i64 (C.length : Int))).setCell (p := ⟨w.heap.size + 1, 7, none⟩) (.inl (.inl rfl)) (.int .i64 (nlf C : Int))).setCell (p := ⟨w.heap.size + 1, 8, none⟩) (.inl (.inl rfl)) (.slice fa i fc)))
                  clear B2f B1f
                  go_wp2
                  refine bodyPost_ret (results_ct rfl _ _ (w.heap.size + 1) _ rfl (load_sh _ _ _ _ _ _ _ _ _ _ _ HFIN.out)) rfl ?_
                  exact shape_fin HST.out.K hssz HKR.out HKF.out HROWF.out HPV.out HSSF.out HSH1.out
                | true =>
                  have hsu4 : su = false := hsu3
                  clear hsu3
                  subst hsu4
                  have B2f := HB2f.out
                  have B1f := HB1f.out
                  have c0 := B2f.cell 0
                  have c1 := B2f.cell 1
                  have c2 := B2f.cell 2
                  have c3 := B2f.cell 3
                  have c4 := B2f.cell 4
                  have c5 := B2f.cell 5
                  have c6 := B2f.cell 6
                  have c7 := B2f.cell 7
                  have c8 := B2f.cell 8
                  have z0 := B1f.cell 0
                  have z1 := B1f.cell 1
                  have z2 := B1f.cell 2
                  have z3 := B1f.cell 3
                  have z4 := B1f.cell 4
                  have z5 := B1f.cell 5
                  have z6 := B1f.cell 6
                  have z7 := B1f.cell 7
                  have z8 := B1f.cell 8
                  have fz1 := B1f.frozen
                  simp only [shc, zsh, List.getElem?_cons_succ, List.getElem?_cons_zero] at c0 c1 c2 c3 c4 c5 c6 c7 c8 z0 z1 z2 z3 z4 z5 z6 z7 z8
                  have HFIN := Lib.hid (((((((((B1f.set 0 (str (tts ty))).set 1 (str (tss ty sub))).set 2 (str [])).set 3 (str id)).set 4 (str ab)).set 5 (str way)).set 6 (.int .i64 (C.length : Int))).set 7 (.int .i64 (nlf C : Int))).set 8 (.slice fa i fc))
                  have HKF := Lib.hid (HK5.out.trans' ((((((((((Keeps.refl (fun x => x = w.heap.size + 1 ∨ x = w.heap.size + 1 + 1) w5).setCell (p := ⟨w.heap.size + 1, 0, none⟩) (.inl (.inl rfl)) (str (tts ty))).setCell (p := ⟨w.heap.size + 1, 1, none⟩) (.inl (.inl rfl)) (str (tss ty sub))).setCell (p := ⟨w.heap.size + 1, 2, none⟩) (.inl (.inl rfl)) (str [])).setCell (p := ⟨w.heap.size + 1, 3, none⟩) (.inl (.inl rfl)) (str id)).setCell (p := ⟨w.heap.size + 1, 4, none⟩) (.inl (.inl rfl)) (str ab)).setCell (p := ⟨w.heap.size + 1, 5, none⟩) (.inl (.inl rfl)) (str way)).setCell (p := ⟨w.heap.size + 1, 6, none⟩) (.inl (.inl rfl)) (.int .i64 (C.length : Int))).setCell (p := ⟨w.heap.size + 1, 7, none⟩) (.inl (.inl rfl)) (.int .i64 (nlf C : Int))).setCell (p := ⟨w.heap.size + 1, 8, none⟩) (.inl (.inl rfl)) (.slice fa i fc)))
                  clear B2f B1f
                  go_wp2
                  refine bodyPost_ret (results_ct rfl _ _ (w.heap.size + 1) _ rfl (load_sh _ _ _ _ _ _ _ _ _ _ _ HFIN.out)) rfl ?_
                  exact shape_fin HST.out.K hssz HKR.out HKF.out HROWF.out HPV.out HSSF.out HSH1.out
          · have HSHE := Lib.hid (H3.out HKN1.out (fun h => by rcases h with h | h; exact HTN.out rfl h; exact HKN.out rfl h))
            rw [← HSVF.out] at HSHE
            obtain ⟨hsh1, hsu1⟩ := HSHE.out
            have HSH1 := Lib.hid hsh1
            clear HSHE hsh1
            subst hsu1
            go_upto_region 18 with (fail)
            clear t0 t1 htb hkb
            have B2f := HB2f.out
            have B1f := HB1f.out
            have c0 := B2f.cell 0
            have c1 := B2f.cell 1
            have c2 := B2f.cell 2
            have c3 := B2f.cell 3
            have c4 := B2f.cell 4
            have c5 := B2f.cell 5
            have c6 := B2f.cell 6
            have c7 := B2f.cell 7
            have c8 := B2f.cell 8
            have z0 := B1f.cell 0
            have z1 := B1f.cell 1
            have z2 := B1f.cell 2
            have z3 := B1f.cell 3
            have z4 := B1f.cell 4
            have z5 := B1f.cell 5
            have z6 := B1f.cell 6
            have z7 := B1f.cell 7
            have z8 := B1f.cell 8
            have fz1 := B1f.frozen
            simp only [shc, zsh, List.getElem?_cons_succ, List.getElem?_cons_zero] at c0 c1 c2 c3 c4 c5 c6 c7 c8 z0 z1 z2 z3 z4 z5 z6 z7 z8
            have HFIN := Lib.hid (((((((((B1f.set 0 (str (tts ty))).set 1 (str (tss ty sub))).set 2 (str [])).set 3 (str id)).set 4 (str ab)).set 5 (str way)).set 6 (.int .i64 (C.length : Int))).set 7 (.int .i64 0)).set 8 (.slice fa i fc))
            have HKF := Lib.hid (HK3.out.trans' ((((((((((Keeps.refl (fun x => x = w.heap.size + 1 ∨ x = w.heap.size + 1 + 1) w3).setCell (p := ⟨w.heap.size + 1, 0, none⟩) (.inl (.inl rfl)) (str (tts ty))).setCell (p := ⟨w.heap.size + 1, 1, none⟩) (.inl (.inl rfl)) (str (tss ty sub))).setCell (p := ⟨w.heap.size + 1, 2, none⟩) (.inl (.inl rfl)) (str [])).setCell (p := ⟨w.heap.size + 1, 3, none⟩) (.inl (.inl rfl)) (str id)).setCell (p := ⟨w.heap.size + 1, 4, none⟩) (.inl (.inl rfl)) (str ab)).setCell (p := ⟨w.heap.size + 1, 5, none⟩) (.inl (.inl rfl)) (str way)).setCell (p := ⟨w.heap.size + 1, 6, none⟩) (.inl (.inl rfl)) (.int .i64 (C.length : Int))).setCell (p := ⟨w.heap.size + 1, 7, none⟩) (.inl (.inl rfl)) (.int .i64 0)).setCell (p := ⟨w.heap.size + 1, 8, none⟩) (.inl (.inl rfl)) (.slice fa i fc)))
            clear B2f B1f
            go_wp2
            refine bodyPost_ret (results_ct rfl _ _ (w.heap.size + 1) _ rfl (load_sh _ _ _ _ _ _ _ _ _ _ _ HFIN.out)) rfl ?_
            exact shape_fin HST.out.K hssz HKR.out HKF.out HROWF.out HPV.out HSSF.out HSH1.out
end Go.Proofs.YtjbbapodcngnaaaGreatDoor.G
namespace Go.Proofs.YtjbbapodcngnaaaGreatDoor.G
open Go.RowKit Hdr

theorem shape_all (n : Nat) : ∀ (m : Ml), msize m ≤ n → MlOk m → ∀ (p : List UInt8), PlOk p → p.length + msize m ≤ 30 → ∀ (ha : Option Addr) (hc : Nat) (ka : Option Addr) (kc : Nat) (w : World), MlC w m (mlCs (.slice ha m.head.length hc) m.kind m.type m.sub m.id m.about m.way m.text (.slice ka m.kids.length kc)) →
    ∀ W, Keeps No w W → Calls Tryz.prog 16 #[mlVal ha m.head.length hc m.kind m.type m.sub m.id m.about m.way m.text ka m.kids.length kc, str p] W (ShPost (shapeOf m p) (sureOf m p) W) := by
  induction n with
  | zero => intro m h; have := msize_pos m; omega
  | succ n ih =>
    intro m hm ok p hp hpl ha hc ka kc w h W K
    have hsz := msize_eq m
    have hform := h.form
    obtain ⟨ha', hc', ka', kc', css, he, hh, hms, hr, hcl⟩ := hform
    simp only [mlCs, List.cons.injEq, Value.slice.injEq, true_and, and_true] at he
    obtain ⟨⟨rfl, rfl⟩, rfl, rfl⟩ := he
    have hlen := (any_lns ok hp hpl).2.2
    have hcle := content_le m p
    have hkn : m.kids.length ≤ 1000 := by have := msizes_len m.kids; omega
    have hT : ttype m = tts m.type := rfl
    have hS : tsub m = tss m.type m.sub := rfl
    refine shape_node ha m.head.length hc m.kind m.type m.sub m.id m.about m.way m.text ka kc m.kids p (content m p) css W _ _ (MlsC.keep K _ _ hms) (hr.keep K) (fun i k kha khc kka kkc hk hkc W' K' => ?_) hkn (by omega) (by omega)
      (fun W' K' => (text_all _ m (Nat.le_refl _) ok p hp hpl ha hc ka kc w h W' (K.trans_no K')).2) (fun h1 => ?_) (fun h1 h2 => ?_) (fun h1 h2 => ?_)
    · have hmem := List.mem_of_getElem? hk
      have h1 := msizes_mem hmem
      exact ih k (by omega) (ok.kids.mem hmem) (under p i) (under_ok hp i) (by rw [under_len]; omega) kha khc kka kkc W hkc W' K'
    · rw [shapeOf_eq, sureOf_eq, hT, hS, if_pos h1, if_pos h1, if_pos h1]
      refine ⟨rfl, ?_⟩
      simp [h1]
    · rw [shapeOf_eq, sureOf_eq, hT, hS, if_neg h1, if_neg h1, if_neg h1, if_pos h2]
      refine ⟨rfl, ?_⟩
      rw [decide_eq_false h1, decide_eq_true h2]
      simp
    · rw [shapeOf_eq, sureOf_eq, hT, hS, if_neg h1, if_neg h1, if_neg h1, if_neg h2]
      refine ⟨rfl, ?_⟩
      rw [decide_eq_false h1, decide_eq_false h2]
      simp
end Go.Proofs.YtjbbapodcngnaaaGreatDoor.G
