/- spec: the closure of header9. -/
import Derived.Test.YtjbbapodcngnaaaDoorSpE
import Derived.Maps.AppendAt
namespace Go.Proofs.YtjbbapodcngnaaaDoor
open Go.RowKit Hdr

/-- Fields of the specification as cells. -/
def f9s (l : List PF) : List Value := l.flatMap fun p => [str p.k, str p.v, str p.raw, .bool true]
theorem f9s_length (l : List PF) : (f9s l).length = l.length * 4 := by
  induction l with
  | nil => rfl
  | cons p l ih => simp [f9s] at *; omega
theorem f9s_append (l m : List PF) : f9s (l ++ m) = f9s l ++ f9s m := by simp [f9s]
theorem info_f9 : (Tryd.prog.info? 60).map (fun i => (i.zero, i.size, i.bytes)) = some (some (.agg #[.string ⟨#[]⟩, .string ⟨#[]⟩, .string ⟨#[]⟩, .bool false]), 4, 56) := by kernel_rfl

/-- The variables that the closure shares. -/
structure Hp (w : World) (base a b c : Nat) (s : HS) : Prop where
  ha : a < base
  hb : b < base
  hc : c < base
  L : ∃ v, Blk w a [v] 26 ∧ w.ownsRow base 9 1 v s.ls.length (s.ls.map str)
  B : Blk w b [.bool s.bad] 4
  F : ∃ v, Blk w c [v] 37 ∧ w.ownsRow base 60 4 v s.fs.length (f9s s.fs)

theorem ownsRow_keep {S : Nat → Prop} {w w' : World} {base : Nat} {e : TypeId} {size n : Nat} {v : Value} {xs : List Value} (h : w.ownsRow base e size v n xs) (k : Keeps S w w') (hS : ∀ b, v.ownBlock = some b → ¬ S b) : w'.ownsRow base e size v n xs := by
  obtain ⟨h1, h2⟩ := h
  refine ⟨h1, ?_⟩
  rcases h2 with h2 | ⟨g, cap, cur, rfl, hb, hg, h3⟩
  · exact .inl h2
  · exact .inr ⟨g, cap, cur, rfl, hb, (k.block g (Array.getElem?_eq_some_iff.1 hg).1 (hS g rfl)).trans hg, h3⟩
theorem ownsRow_shape {w : World} {base : Nat} {e : TypeId} {size n : Nat} {v : Value} {xs : List Value} (h : w.ownsRow base e size v n xs) : ∃ a cap, v = .slice a n cap := by
  rcases h.2 with ⟨h1, h2⟩ | ⟨g, cap, cur, rfl, _⟩
  · exact ⟨none, 0, by rw [h1, h2]⟩
  · exact ⟨_, _, rfl⟩

theorem strs_of_row {w : World} {base g cap : Nat} {ls : List (List UInt8)} {n : Nat} (h : w.ownsRow base 9 1 (.slice (some ⟨g, 0, none⟩) n cap) ls.length (ls.map str)) : Strs w g ls := by
  obtain ⟨_, h2⟩ := h
  rcases h2 with ⟨h2, _⟩ | ⟨g', cap', cur, h2, hb, hg, _, _, _, ht⟩
  · cases h2
  · injection h2 with h2 _ _
    injection h2 with h2
    injection h2 with h2
    subst h2
    exact ⟨cur, (0, 0), hg, by simpa using ht⟩

theorem f9_open {l0 : List UInt8} {ls : List (List UInt8)} {w w' : World} {e : Ending} (h : F9Post l0 ls w e w') : ∃ (k v raw : List UInt8) (has : Bool), e = .returned (.tuple #[.agg #[str k, str v, str raw, .bool has], .bool (okOf l0)]) ∧ Keeps No w w' ∧
    (okOf l0 = true → k = canon (trim (tillC l0)) ∧ v = vals [] (l0.drop ((tillC l0).length + 1) :: ls) ∧ raw = raws (l0 :: ls) ∧ has = true) := by
  obtain ⟨h, K⟩ := h
  by_cases hat : (tillC l0).length = l0.length
  · rw [if_pos hat] at h
    have : okOf l0 = false := by unfold okOf; rw [decide_eq_true hat]; rfl
    exact ⟨[], [], [], false, by rw [this]; exact h, K, fun h2 => by rw [this] at h2; cases h2⟩
  · rw [if_neg hat] at h
    have hok : okOf l0 = (trim (tillC l0)).all keyb := by unfold okOf; rw [decide_eq_false hat]; rfl
    refine ⟨_, _, _, _, by rw [hok]; exact h, K, fun h2 => ?_⟩
    rw [hok] at h2
    rw [if_pos h2]
    exact ⟨rfl, rfl, rfl, rfl⟩

/-- What the closure leaves. -/
def PutPost (base a b c : Nat) (s : HS) (w : World) (e : Ending) (w' : World) : Prop :=
  e = .returned (.tuple #[]) ∧ Hp w' base a b c (put9 s) ∧ Keeps (Up base [a, b, c]) w w'

set_option maxRecDepth 100000 in
set_option maxHeartbeats 2000000 in
theorem put_any (base a b c : Nat) (s : HS) (w : World) (h : Hp w base a b c s) (hsz : base ≤ w.heap.size) (hab : a ≠ b) (hac : a ≠ c) (hbc : b ≠ c) (hraw : (raws s.ls).length ≤ 1000000) (hls : s.ls.length ≤ 1000000) (hfs : s.fs.length ≤ 1000000) :
    Calls Tryd.prog 22 #[.pointer (some ⟨a, 0, none⟩), .pointer (some ⟨b, 0, none⟩), .pointer (some ⟨c, 0, none⟩)] w (PutPost base a b c s w) := by
  obtain ⟨ls, bad, fs⟩ := s
  obtain ⟨ha, hb, hc, ⟨vl, hL, hLo⟩, hB, ⟨vf, hF, hFo⟩⟩ := h
  simp only at *
  obtain ⟨la, lcap, rfl⟩ := ownsRow_shape hLo
  obtain ⟨fa, fcap, rfl⟩ := ownsRow_shape hFo
  have cL : w.cell? ⟨a, 0, none⟩ = some (.slice la ls.length lcap) := hL.cell 0
  have cB : w.cell? ⟨b, 0, none⟩ = some (.bool bad) := hB.cell 0
  have cF : w.cell? ⟨c, 0, none⟩ = some (.slice fa fs.length fcap) := hF.cell 0
  have HL := Lib.hid hL
  have HB := Lib.hid hB
  have HF := Lib.hid hF
  have HLO := Lib.hid hLo
  have HFO := Lib.hid hFo
  clear hL hB hF hLo hFo
  cases ls with
  | nil =>
    go_enter Tryd.func22, Tryd.ntmps22
    go_wp2
    go_end0
    exact ⟨rfl, ⟨ha, hb, hc, ⟨_, HL.out, HLO.out⟩, HB.out, ⟨_, HF.out, HFO.out⟩⟩, Keeps.refl _ _⟩
  | cons l0 ls =>
    obtain ⟨g, rfl⟩ : ∃ g, la = some ⟨g, 0, none⟩ := by
      rcases HLO.out.2 with ⟨h1, h2⟩ | ⟨g, cap', cur, h1, _⟩
      · simp at h2
      · injection h1 with h1 _ _
        exact ⟨g, h1⟩
    have hgb : base ≤ g ∧ g < w.heap.size := HLO.out.lt g rfl
    have hS := strs_of_row HLO.out
    have H9 := fieldOf9_any g lcap l0 ls (ls.length + 1) rfl w hS hraw (by simpa using hls)
    have HH9 := Lib.hid H9
    have e0 : (((ls.length + 1 : Nat) : Int) == 0) = false := by simp; omega
    clear H9 hS
    go_enter Tryd.func22, Tryd.ntmps22
    go_wp2_with (fail)
    refine HH9.out.mono ?_
    rintro e w1 hpost
    obtain ⟨k, v, raw, has, rfl, K1, hres⟩ := f9_open hpost
    clear hpost
    have hB1 := HB.out.keep_no K1
    have hL1 := HL.out.keep_no K1
    have hF1 := HF.out.keep_no K1
    have f1 := hL1.frozen
    have f2 := hB1.frozen
    have f3 := hF1.frozen
    have d1 : w1.cell? ⟨a, 0, none⟩ = some (.slice (some ⟨g, 0, none⟩) (ls.length + 1) lcap) := hL1.cell 0
    have d2 : w1.cell? ⟨b, 0, none⟩ = some (.bool bad) := hB1.cell 0
    have d3 : w1.cell? ⟨c, 0, none⟩ = some (.slice fa fs.length fcap) := hF1.cell 0
    have hFO1 := ownsRow_keep HFO.out K1 (fun _ _ h => h)
    have HL1 := Lib.hid hL1
    have HB1 := Lib.hid hB1
    have HF1 := Lib.hid hF1
    have HFO1 := Lib.hid hFO1
    have HRES := Lib.hid hres
    clear hB1 hL1 hF1 hFO1 hres cL cB cF
    have ha1 : a < w1.heap.size := HL1.out.lt
    have hb1 : b < w1.heap.size := HB1.out.lt
    have hc1 : c < w1.heap.size := HF1.out.lt
    have hsz1 := K1.size
    generalize hok : okOf l0 = ok at *
    have HOK := Lib.hid hok
    clear hok
    have hkAB : ∀ x y, Keeps (In [a, b]) w1 ((w1.setCell ⟨a, 0, none⟩ x).setCell ⟨b, 0, none⟩ y) := fun x y => ((Keeps.refl _ w1).setCell (.inl (by simp [In])) _).setCell (.inl (by simp [In])) _
    have hLa : ∀ y, Blk ((w1.setCell ⟨a, 0, none⟩ (.slice none 0 0)).setCell ⟨b, 0, none⟩ y) a [.slice none 0 0] 26 := fun y => ((HL1.out.set 0 (.slice none 0 0)).to rfl).set_other (p := ⟨b, 0, none⟩) (Ne.symm hab) y
    have hBb : ∀ x y, Blk ((w1.setCell ⟨a, 0, none⟩ x).setCell ⟨b, 0, none⟩ y) b [y] 4 := fun x y => ((HB1.out.set_other (p := ⟨a, 0, none⟩) hab x).set 0 y).to rfl
    have hFc : ∀ x y, Blk ((w1.setCell ⟨a, 0, none⟩ x).setCell ⟨b, 0, none⟩ y) c [.slice fa fs.length fcap] 37 := fun x y => HF1.out.keep (hkAB x y) (fun h => by simp [In] at h; omega)
    have hFo : ∀ x y, ((w1.setCell ⟨a, 0, none⟩ x).setCell ⟨b, 0, none⟩ y).ownsRow base 60 4 (.slice fa fs.length fcap) fs.length (f9s fs) := fun x y => ownsRow_keep HFO1.out (hkAB x y) (fun q hq h => by
      have := (HFO1.out.lt q hq).1
      simp [In] at h
      omega)
    have hgen : ∀ (y : Bool) (o : Obj), Hp (((w1.setCell ⟨a, 0, none⟩ (.slice none 0 0)).setCell ⟨b, 0, none⟩ (.bool y)).alloc o) base a b c ⟨[], y, fs⟩ ∧ Keeps (Up base [a, b, c]) w (((w1.setCell ⟨a, 0, none⟩ (.slice none 0 0)).setCell ⟨b, 0, none⟩ (.bool y)).alloc o) := fun y o => by
      refine ⟨⟨ha, hb, hc, ⟨_, (hLa _).alloc o, World.ownsRow_nil _ _ _ _⟩, (hBb _ _).alloc o, ⟨_, (hFc _ _).alloc o, (hFo _ _).alloc o⟩⟩, ?_⟩
      refine (K1.of_no.trans' ((hkAB _ _).mono (fun x _ h => ?_))).alloc o
      simp [In] at h
      exact .inl (by simp; omega)
    have HGEN := Lib.hid hgen
    clear hgen
    cases ok with
    | false =>
      have hp : put9 ⟨l0 :: ls, bad, fs⟩ = ⟨[], true, fs⟩ := by
        unfold put9
        simp [HOK.out]
      have HP := Lib.hid hp
      clear hp
      cases bad with
      | true =>
        go_wp2
        go_end0
        exact ⟨rfl, HP.out ▸ (HGEN.out true _).1, (HGEN.out true _).2⟩
      | false =>
        go_wp2
        go_end0
        exact ⟨rfl, HP.out ▸ (HGEN.out true _).1, (HGEN.out true _).2⟩
    | true =>
      obtain ⟨rfl, rfl, rfl, rfl⟩ := HRES.out rfl
      by_cases hk0 : trim (tillC l0) = []
      · have hp : put9 ⟨l0 :: ls, bad, fs⟩ = ⟨[], bad, fs⟩ := by
          unfold put9
          simp [HOK.out, hk0]
        have HP := Lib.hid hp
        have hkk : canon (trim (tillC l0)) = [] := by rw [hk0]; rfl
        generalize canon (trim (tillC l0)) = kk at *
        have hem : kk.isEmpty = true := by rw [hkk]; rfl
        have HKK := Lib.hid hkk
        clear hp hkk hk0
        cases bad with
        | true =>
          go_wp2
          go_end0
          exact ⟨rfl, HP.out ▸ (HGEN.out true _).1, (HGEN.out true _).2⟩
        | false =>
          go_wp2
          go_end0
          exact ⟨rfl, HP.out ▸ (HGEN.out false _).1, (HGEN.out false _).2⟩
      · have hp : put9 ⟨l0 :: ls, bad, fs⟩ = ⟨[], bad, fs ++ [pfOf l0 ls]⟩ := by
          unfold put9
          simp [HOK.out, hk0]
        have HP := Lib.hid hp
        have hem : (canon (trim (tillC l0))).isEmpty = false := by
          cases hq : canon (trim (tillC l0)) with
          | nil =>
            have := congrArg List.length hq
            rw [canon_len] at this
            exact absurd (List.length_eq_zero_iff.1 this) hk0
          | cons _ _ => rfl
        have hpf : pfOf l0 ls = ⟨canon (trim (tillC l0)), vals [] (l0.drop ((tillC l0).length + 1) :: ls), raws (l0 :: ls)⟩ := rfl
        generalize canon (trim (tillC l0)) = kk at *
        generalize vals [] (l0.drop ((tillC l0).length + 1) :: ls) = vv at *
        generalize raws (l0 :: ls) = rr at *
        generalize pfOf l0 ls = pf at *
        subst hpf
        clear hp hk0
        have hsz3 : ∀ x y o, (((w1.setCell ⟨a, 0, none⟩ x).setCell ⟨b, 0, none⟩ y).alloc o).heap.size = w1.heap.size + 1 := fun x y o => by simp
        have hc1 : ∀ W : World, W.heap.size = w1.heap.size + 1 → ∀ i u, (f9s [⟨kk, vv, rr⟩])[i]? = some u → (W.alloc (.cells #[str kk, str vv, str rr, .bool true] 60)).cell? ((⟨w1.heap.size + 1, 0, none⟩ : Addr).add i) = some u := fun W hW i u hi => by
          have hb := Blk.new W [str kk, str vv, str rr, .bool true] 60
          rw [hW] at hb
          have hadd : (⟨w1.heap.size + 1, 0, none⟩ : Addr).add i = ⟨w1.heap.size + 1, i, none⟩ := by unfold Addr.add; split <;> simp_all
          rw [hadd]
          exact (hb.cell i).trans hi
        have hc2 : ∀ u ∈ f9s [⟨kk, vv, rr⟩], u.oneCell' = true := fun u hu => by
          simp [f9s] at hu
          rcases hu with rfl | rfl | rfl | rfl <;> rfl
        have hfin : ∀ (y : Bool) (o1 o2 : Obj) (W : World) (v' : Value), ((((w1.setCell ⟨a, 0, none⟩ (.slice none 0 0)).setCell ⟨b, 0, none⟩ (.bool y)).alloc o1).alloc o2).grownBy W (Value.slice fa fs.length fcap).ownBlock → W.ownsRow base 60 4 v' (fs.length + 1) (f9s fs ++ f9s [⟨kk, vv, rr⟩]) →
            Blk W c [.slice fa fs.length fcap] 37 ∧ Hp (W.setCell ⟨c, 0, none⟩ v') base a b c ⟨[], y, fs ++ [⟨kk, vv, rr⟩]⟩ ∧ Keeps (Up base [a, b, c]) w (W.setCell ⟨c, 0, none⟩ v') := fun y o1 o2 W v' hgr hrow => by
          have hlo : ∀ k, (Value.slice fa fs.length fcap).ownBlock = some k → base ≤ k := fun k hk => ((hFo (.slice none 0 0) (.bool y)).lt k hk).1
          have hold : ∀ k, k < base → W.heap[k]? = ((((w1.setCell ⟨a, 0, none⟩ (.slice none 0 0)).setCell ⟨b, 0, none⟩ (.bool y)).alloc o1).alloc o2).heap[k]? := fun k hk => hgr.block k (by simp; omega) (fun h => by have := hlo k h.symm; omega)
          have hcW : Blk W c [.slice fa fs.length fcap] 37 := (hold c hc).trans (((hFc _ _).alloc _).alloc _)
          have haW : Blk W a [.slice none 0 0] 26 := (hold a ha).trans (((hLa _).alloc _).alloc _)
          have hbW : Blk W b [.bool y] 4 := (hold b hb).trans (((hBb _ _).alloc _).alloc _)
          refine ⟨hcW, ⟨ha, hb, hc, ⟨_, haW.set_other (p := ⟨c, 0, none⟩) (Ne.symm hac) _, World.ownsRow_nil _ _ _ _⟩, hbW.set_other (p := ⟨c, 0, none⟩) (Ne.symm hbc) _, ⟨v', (hcW.set 0 v').to rfl, ?_⟩⟩, ?_⟩
          · have h2 := ownsRow_keep hrow (Keeps.cell_one W ⟨c, 0, none⟩ v') (fun q hq h => by
              have := (hrow.lt q hq).1
              simp [In] at h
              omega)
            rw [← f9s_append] at h2
            simpa using h2
          · refine (((HGEN.out y o1).2.alloc o2).grown hgr (fun k hk => .inl (.inr (hlo k hk)))).setCell (.inl (.inl (by simp))) _
        have HC1 := Lib.hid hc1
        have HC2 := Lib.hid hc2
        have HSZ3 := Lib.hid hsz3
        have HFo2 := Lib.hid hFo
        have HFIN := Lib.hid hfin
        clear hc1 hc2 hsz3 hFo hfin
        obtain ⟨i0, hi, hz0, hz1, hz2⟩ := info_parts info_f9
        have hac' : ((a : Nat) == c) = false := by simpa using hac
        cases bad with
        | true =>
          go_wp2_with (at_builtin; refine wpList_append_own _ rfl (.tmp 24) (.tmp 26) 37 rfl base 60 i0 (.agg #[.string ⟨#[]⟩, .string ⟨#[]⟩, .string ⟨#[]⟩, .bool false]) 4 56 Tryd.underlying37 hi hz0 hz1 hz2 rfl (by decide) _ fs.length (f9s fs) rfl (((HFo2.out _ _).alloc _).alloc _) ⟨w1.heap.size + 1, 0, none⟩ 1 1 (f9s [⟨kk, vv, rr⟩]) rfl (by rw [f9s_length]; rfl) (HC1.out _ (HSZ3.out _ _ _)) HC2.out (by unfold maxLen; omega) (by omega) (by simp; omega) ?_; intro v' W hrow' hgr _; have hf := HFIN.out _ _ _ _ _ hgr hrow'; have fW := hf.1.frozen 0; have dW := hf.1.cell 0; have HF2 := Lib.hid hf; obtain ⟨va, vc, rfl⟩ := ownsRow_shape hrow'; clear hf hrow' hgr)
          go_end0
          exact ⟨rfl, HP.out ▸ HF2.out.2.1, HF2.out.2.2⟩
        | false =>
          go_wp2_with (at_builtin; refine wpList_append_own _ rfl (.tmp 24) (.tmp 26) 37 rfl base 60 i0 (.agg #[.string ⟨#[]⟩, .string ⟨#[]⟩, .string ⟨#[]⟩, .bool false]) 4 56 Tryd.underlying37 hi hz0 hz1 hz2 rfl (by decide) _ fs.length (f9s fs) rfl (((HFo2.out _ _).alloc _).alloc _) ⟨w1.heap.size + 1, 0, none⟩ 1 1 (f9s [⟨kk, vv, rr⟩]) rfl (by rw [f9s_length]; rfl) (HC1.out _ (HSZ3.out _ _ _)) HC2.out (by unfold maxLen; omega) (by omega) (by simp; omega) ?_; intro v' W hrow' hgr _; have hf := HFIN.out _ _ _ _ _ hgr hrow'; have fW := hf.1.frozen 0; have dW := hf.1.cell 0; have HF2 := Lib.hid hf; obtain ⟨va, vc, rfl⟩ := ownsRow_shape hrow'; clear hf hrow' hgr)
          go_end0
          exact ⟨rfl, HP.out ▸ HF2.out.2.1, HF2.out.2.2⟩
end Go.Proofs.YtjbbapodcngnaaaDoor
