/- spec: bytes9, told9. -/
import Derived.Test.YtjbbapodcngnaaaDoorSpG
namespace Go.Proofs.YtjbbapodcngnaaaDoor
open Go.RowKit Hdr

/-- A field of the specification. -/
structure F9 where
  k : List UInt8
  v : List UInt8
  raw : List UInt8
  has : Bool
def F9.val (p : F9) : Value := .agg #[str p.k, str p.v, str p.raw, .bool p.has]
def f9c (l : List F9) : List Value := l.flatMap fun p => [str p.k, str p.v, str p.raw, .bool p.has]
def rawF (p : PF) : F9 := ⟨p.k, p.v, p.raw, true⟩
theorem f9s_f9c (l : List PF) : f9s l = f9c (l.map rawF) := by
  unfold f9s f9c
  rw [List.flatMap_map]
  rfl
theorem f9c_at : ∀ (l : List F9) (i : Nat) (h : i < l.length), (f9c l)[i * 4]? = some (str l[i].k) ∧ (f9c l)[i * 4 + 1]? = some (str l[i].v) ∧ (f9c l)[i * 4 + 2]? = some (str l[i].raw) ∧ (f9c l)[i * 4 + 3]? = some (.bool l[i].has)
  | p :: l, 0, _ => ⟨rfl, rfl, rfl, rfl⟩
  | p :: l, i + 1, h => by
    have ih := f9c_at l i (by simpa using h)
    have e : f9c (p :: l) = str p.k :: str p.v :: str p.raw :: .bool p.has :: f9c l := rfl
    rw [e, show (i + 1) * 4 = i * 4 + 1 + 1 + 1 + 1 by omega]
    simp only [List.getElem?_cons_succ, List.getElem_cons_succ]
    exact ih

/-- What bytes9 leaves. -/
def B9Post (b : List UInt8) (w : World) (e : Ending) (w' : World) : Prop := e = .returned (str b) ∧ Keeps No w w'

set_option maxRecDepth 100000 in
theorem bytes9_raw (k v raw : List UInt8) (w : World) :
    Calls Tryd.prog 24 #[F9.val ⟨k, v, raw, true⟩] w (B9Post raw w) := by
  unfold F9.val
  go_enter Tryd.func24, Tryd.ntmps24
  go_wp2
  go_ret
  exact ⟨rfl, (Keeps.refl No w).alloc _⟩

/-- A row of fields, somewhere. -/
def Row9 (w : World) (v : Value) (l : List F9) : Prop :=
  (v = .slice none 0 0 ∧ l = []) ∨ ∃ g cap, v = .slice (some ⟨g, 0, none⟩) l.length cap ∧ l.length ≤ cap ∧ ∃ cs f, w.heap[g]? = some (.cells cs 60 f) ∧ cs.toList.take (l.length * 4) = f9c l
theorem f9c_length (l : List F9) : (f9c l).length = l.length * 4 := by
  induction l with
  | nil => rfl
  | cons p l ih => simp [f9c] at *; omega
theorem Row9.of_row {w : World} {base : Nat} {v : Value} {l : List F9} (h : w.ownsRow base 60 4 v l.length (f9c l)) : Row9 w v l := by
  obtain ⟨h1, h2⟩ := h
  rcases h2 with ⟨rfl, h2⟩ | ⟨g, cap, cur, rfl, hb, hg, hc, hm, hs, ht⟩
  · exact .inl ⟨rfl, List.length_eq_zero_iff.1 (by simpa using h2)⟩
  · exact .inr ⟨g, cap, rfl, hc, cur, (0, 0), hg, ht⟩

/-- What told9 leaves. -/
def T9LPost (ps : List PF) (w : World) (e : Ending) (w' : World) : Prop :=
  ∃ v, e = .returned v ∧ w'.ownsRow w.heap.size 28 3 v ps.length (hfs ps) ∧ Keeps No w w'

set_option maxRecDepth 100000 in
set_option maxHeartbeats 2000000 in
theorem told9_any (B : F9 → List UInt8) (l : List F9) (v : Value) (w : World) (h : Row9 w v l) (hn : l.length ≤ 100000)
    (hB : ∀ p ∈ l, ∀ w, Calls Tryd.prog 24 #[p.val] w (B9Post (B p) w)) :
    Calls Tryd.prog 13 #[v] w (T9LPost (l.map fun p => ⟨p.k, p.v, B p⟩) w) := by
  obtain ⟨va, cap, hv⟩ : ∃ va cap, v = .slice va l.length cap := by
    rcases h with ⟨rfl, rfl⟩ | ⟨g, cap, rfl, _⟩
    · exact ⟨none, 0, rfl⟩
    · exact ⟨_, _, rfl⟩
  subst hv
  have H := Lib.hid h
  have HB := Lib.hid hB
  clear h hB
  generalize hnl : l.length = n at *
  have HN := Lib.hid hnl
  clear hnl
  go_enter Tryd.func13, Tryd.ntmps13
  go_wp2
  go_loopg [3, 7] n (fun q s3 s7 wr => ∃ j : Nat, s7 = .int .i64 (j : Int) ∧ j + q = n ∧ wr.ownsRow w.heap.size 28 3 s3 j (hfs ((l.take j).map fun p => ⟨p.k, p.v, B p⟩)) ∧ Keeps No w wr)
  case atStart => exact ⟨0, rfl, by omega, World.ownsRow_nil _ _ _ _, Keeps.refl _ _⟩
  case round =>
    obtain ⟨j, rfl, hjn, hrow, K⟩ := hrel
    have HJN := Lib.hid hjn
    have hjl : j ≤ n := by omega
    obtain ⟨oa, oc, rfl⟩ := ownsRow_shape hrow
    have HROW := Lib.hid hrow
    clear hjn hrow
    by_cases hj : j < n
    · have hjj : (j : Int) < (n : Int) := by omega
      have hjl2 : j < l.length := by have := HN.out; omega
      obtain ⟨g, rfl, hcc, cs, f, hg, ht⟩ : ∃ g, va = some ⟨g, 0, none⟩ ∧ n ≤ cap ∧ ∃ cs f, w.heap[g]? = some (.cells cs 60 f) ∧ cs.toList.take (n * 4) = f9c l := by
        rcases H.out with ⟨h1, h2⟩ | ⟨g, cap', h1, h2, cs, f, h3, h4⟩
        · rw [h2] at hjl2; simp at hjl2
        · injection h1 with h1 _ h5
          subst h5
          rw [HN.out] at h2 h4
          exact ⟨g, h1, h2, cs, f, h3, h4⟩
      have hglt : g < w.heap.size := (Array.getElem?_eq_some_iff.1 hg).1
      have hcell : ∀ W S, Keeps S w W → ¬ S g → ∀ i u, (f9c l)[i]? = some u → W.cell? ⟨g, i, none⟩ = some u := fun W S hk hS i u hu => by
        have h1 := (hk.block g hglt hS).trans hg
        have hil : i < (f9c l).length := (List.getElem?_eq_some_iff.1 hu).1
        rw [← ht] at hu hil
        rw [List.length_take] at hil
        rw [List.getElem?_take, if_pos (by omega)] at hu
        simp only [World.cell?, h1]
        simpa using hu
      obtain ⟨a1, a2, a3, a4⟩ := f9c_at l j hjl2
      have hb := HB.out l[j] (List.getElem_mem _)
      have htk : l.take (j + 1) = l.take j ++ [l[j]] := List.take_succ_eq_append_getElem hjl2
      generalize l[j] = p at *
      have HTK := Lib.hid htk
      have HC := Lib.hid hcell
      have HBP := Lib.hid hb
      have hcls : ∀ W S, Keeps S w W → ¬ S g → W.cell? ⟨g, j * 4, none⟩ = some (str p.k) ∧ W.cell? ⟨g, j * 4 + 1, none⟩ = some (str p.v) ∧ W.cell? ⟨g, j * 4 + 2, none⟩ = some (str p.raw) ∧ W.cell? ⟨g, j * 4 + 3, none⟩ = some (.bool p.has) :=
        fun W S hk hS => ⟨hcell W S hk hS _ _ a1, hcell W S hk hS _ _ a2, hcell W S hk hS _ _ a3, hcell W S hk hS _ _ a4⟩
      have HCLS := Lib.hid hcls
      clear htk hcell hb hcls a1 a2 a3 a4 hg ht
      go_upto_region 5 with (fail)
      refine region_segs [([0, 1, 2, 3, 4, 5, 6, 7, 8, 9, 10, 11, 12, 13, 14], 15), ([16], 17)] [] 18 (fun W => W.cell? ⟨g, j * 4, none⟩ = some (str p.k) ∧ W.cell? ⟨g, j * 4 + 1, none⟩ = some (str p.v) ∧ W.cell? ⟨g, j * 4 + 2, none⟩ = some (str p.raw) ∧ W.cell? ⟨g, j * 4 + 3, none⟩ = some (.bool p.has)) (by kernel_rfl) (by kernel_rfl) ?_ ?_
      · exact HCLS.out _ No K.drew (fun h => h)
      simp only [segPick, List.map_cons, List.map_nil, pick, List.filterMap_cons, List.filterMap_nil, List.getElem?_cons_succ, List.getElem?_cons_zero, List.drop_succ_cons, List.drop_zero]
      rw [wpSegs]
      intro ι F hne hF
      have c1 := fun i => (hF i).1
      have c2 := fun i => (hF i).2.1
      have c3 := fun i => (hF i).2.2.1
      have c4 := fun i => (hF i).2.2.2
      clear hF
      repeat (quiet_step (fail))
      refine wpQuiet_nil ?_
      clear c1 c2 c3 c4 hne F ι
      go_wp2_with (fail)
      refine (HBP.out _).mono ?_
      rintro e w5 ⟨rfl, K5⟩
      generalize hbp : B p = bp at *
      have HBE := Lib.hid hbp
      clear hbp
      have K05 : Keeps No wr w5 := ((Keeps.refl No wr).drew).trans' K5
      have KW5 := K.trans' K05
      have hrow5 := ownsRow_keep HROW.out K05 (fun _ _ h => h)
      have HROW5 := Lib.hid hrow5
      clear hrow5
      go_wp2
      refine EffPost.intro (HCLS.out _ No KW5 (fun h => h)) ?_
      rw [wpSegs]
      intro ι F hne hF
      clear hF
      repeat (quiet_step (fail))
      refine wpQuiet_nil ?_
      clear hne F ι
      go_wp2
      refine EffPost.intro (HCLS.out _ No (KW5.alloc _) (fun h => h)) ?_
      rw [wpSegs]
      intro ι F hne hF
      clear hF
      repeat (quiet_step (fail))
      refine wpQuiet_nil ?_
      clear hne F ι
      obtain ⟨i0, hi, hz0, hz1, hz2⟩ := info_parts info_hfield
      have hc1 : ∀ i u, (hfs [⟨p.k, p.v, bp⟩])[i]? = some u → (w5.alloc (.cells #[str p.k, str p.v, str bp] 28)).cell? ((⟨w5.heap.size, 0, none⟩ : Addr).add i) = some u := fun i u hi => by
        have hb := Blk.new w5 [str p.k, str p.v, str bp] 28
        rw [addr_at]
        exact (hb.cell i).trans hi
      have hc2 : ∀ u ∈ hfs [⟨p.k, p.v, bp⟩], u.oneCell' = true := fun u hu => by
        simp [hfs] at hu
        rcases hu with rfl | rfl | rfl <;> rfl
      have hb5 : w.heap.size ≤ w5.heap.size := KW5.size
      have HC1 := Lib.hid hc1
      have HC2 := Lib.hid hc2
      clear hc1 hc2
      change wpList _ _ _ (_ :: _ :: []) _ _
      go_wp2_with (at_builtin; refine wpList_append_own _ rfl (.tmp 10) (.tmp 27) 23 rfl w.heap.size 28 i0 (.agg #[.string ⟨#[]⟩, .string ⟨#[]⟩, .string ⟨#[]⟩]) 3 48 Tryd.underlying23 hi hz0 hz1 hz2 rfl (by decide) _ j (hfs ((l.take j).map fun p => ⟨p.k, p.v, B p⟩)) rfl (HROW5.out.alloc _) ⟨w5.heap.size, 0, none⟩ 1 1 (hfs [⟨p.k, p.v, bp⟩]) rfl (by rw [hfs_length]; rfl) HC1.out HC2.out (by unfold maxLen; omega) (by omega) (by simp; omega) ?_; intro v' W hrow' hgr _; have HRW := Lib.hid hrow'; have KW := (KW5.alloc _).grown hgr (fun k hk => .inr (HROW5.out.lt k hk).1); clear hrow' hgr)
      go_roundg (gk - 1)
      case measure => have := HJN.out; omega
      case rel =>
        refine ⟨j + 1, by simp, by have := HJN.out; omega, ?_, KW⟩
        have h2 := HRW.out
        rw [← hfs_append] at h2
        rw [HTK.out, List.map_append, List.map_cons, List.map_nil, HBE.out]
        exact h2
    · have hjn : j = n := by omega
      have e1 : decide ((j : Int) < (n : Int)) = false := decide_eq_false (by omega)
      have hfull : l.take j = l := List.take_of_length_le (by have := HN.out; omega)
      have HFL := Lib.hid hfull
      have HJE := Lib.hid hjn
      clear hjn hfull
      go_wp2
      go_ret
      refine ⟨_, rfl, ?_, K⟩
      have h2 := HROW.out
      rw [HFL.out] at h2
      rw [List.length_map, HN.out, ← HJE.out]
      exact h2
end Go.Proofs.YtjbbapodcngnaaaDoor
