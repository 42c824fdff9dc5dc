/- makeHeaderMap. -/
import Derived.Test.YtjbbapodcngnaaaDoorMapB
namespace Go.Proofs.YtjbbapodcngnaaaDoor
open Go.RowKit Hdr

theorem info_hf : (Tryd.prog.info? 67).map (fun i => (i.zero, i.size, i.bytes)) = some (some (.pointer none), 1, 8) := by kernel_rfl

theorem run_makeMap_n (w : World) (n : Int) : (Instr.makeMap 43 (some (.int .i64 n))).run Tryd.prog w = .ok (.map (some w.heap.size)) (w.alloc (.map #[] 0)) := by
  simp [Instr.makeMap, run_underlying und_map, asInt, asIntOf, Result.andThen]

theorem PS.mono {w : World} {base base' : Nat} {v : Value} {l : List Nat} (h : PS w base' v l) (hb : base ≤ base') : PS w base v l := by
  obtain ⟨h1, h2⟩ := h
  refine ⟨h1, ?_⟩
  rcases h2 with h2 | ⟨g, cap, cur, rfl, h3, h4⟩
  · exact .inl h2
  · exact .inr ⟨g, cap, cur, rfl, by omega, h4⟩

theorem Grouped.nil (w : World) (base : Nat) (fs : List Fd) : Grouped w base [] (fs.take 0) := by
  rw [List.take_zero]
  refine ⟨.nil, .nil, ?_, ?_, ?_, ?_⟩
  · intro x h; cases h
  · intro x h; cases h
  · intro x h; cases h
  · intro x h; cases h

theorem grp_cases (gs : List Grp) (k : List UInt8) : (∀ x ∈ gs, x.key ≠ k) ∨ ∃ a x b, gs = a ++ x :: b ∧ x.key = k ∧ ∀ y ∈ a, y.key ≠ k := by
  induction gs with
  | nil => exact .inl (fun x h => by cases h)
  | cons x gs ih =>
    by_cases h : x.key = k
    · exact .inr ⟨[], x, gs, rfl, h, fun y h => by cases h⟩
    · rcases ih with ih | ⟨a, y, b, rfl, h1, h2⟩
      · refine .inl (fun z hz => ?_)
        rcases List.mem_cons.1 hz with rfl | hz
        · exact h
        · exact ih z hz
      · refine .inr ⟨x :: a, y, b, rfl, h1, fun z hz => ?_⟩
        rcases List.mem_cons.1 hz with rfl | hz
        · exact h
        · exact h2 z hz

theorem PS.own_some {w : World} {base : Nat} {v : Value} {l : List Nat} (h : PS w base v l) (hl : l ≠ []) : ∃ g, v.ownBlock = some g ∧ base ≤ g ∧ g < w.heap.size := by
  obtain ⟨g, cap, rfl, h1, h2, _⟩ := h.block hl
  exact ⟨g, rfl, h1, h2⟩

/-- One field goes into its group. -/
theorem group_step {wr : World} {mb base : Nat} {gs : List Grp} {fs : List Fd} {i : Nat} (hi : i < fs.length) (hM : MapE wr mb gs) (hG : Grouped wr base gs (fs.take i)) (hmb : mb < base) :
    ∃ (v0 : Value) (ps0 : List Nat), (∀ W, MapE W mb gs → (Instr.lookup 43 (.map (some mb)) (str fs[i].k) false).run Tryd.prog W = .ok v0 W) ∧ PS wr base v0 ps0 ∧ ps0.length ≤ i ∧
      ∀ v' w2, PS w2 base v' (ps0 ++ [fs[i].blk]) → Keeps (fun k => v0.ownBlock = some k) wr w2 → (v'.ownBlock = v0.ownBlock ∨ ∃ g, v'.ownBlock = some g ∧ wr.heap.size ≤ g) →
        ∃ W, (Instr.mapUpdate 43 (.map (some mb)) (str fs[i].k) v').run Tryd.prog w2 = .ok () W ∧ ∃ gs', MapE W mb gs' ∧ Grouped W base gs' (fs.take (i + 1)) ∧ Keeps (In [mb]) w2 W := by
  have hother : ∀ (W w2 : World) (v0 : Value) (x : Grp), Keeps (fun k => v0.ownBlock = some k) wr w2 → Keeps (In [mb]) w2 W → x ∈ gs → x.v.ownBlock ≠ v0.ownBlock → PS W base x.v x.ps := fun W w2 v0 x k1 k2 hx hne => by
    obtain ⟨g, hg, hg1, hg2⟩ := (hG.own x hx).own_some (hG.some_ x hx)
    refine PS.keep (PS.keep (hG.own x hx) k1 (fun b hb => ?_)) k2 (fun b hb => ?_)
    · intro h
      exact hne (hb.trans h.symm)
    · rw [hg] at hb
      obtain rfl := Option.some.inj hb
      intro h
      simp [In] at h
      omega
  rcases grp_cases gs fs[i].k with hn | ⟨a, x, b, rfl, hxk, hn⟩
  · refine ⟨.slice none 0 0, [], fun W hW => run_lookup_none W mb gs _ hW hn, World.ownsRow_nil _ _ _ _, Nat.zero_le _, fun v' w2 hv' k hl => ?_⟩
    have hM2 := hM.keep k (fun h => by cases h)
    obtain ⟨W, hr, hMW, kW⟩ := run_update_none w2 mb gs ⟨fs[i].k, v', [fs[i].blk]⟩ hM2 hn
    obtain ⟨gv, hgv, hgv1, hgv2⟩ := PS.own_some hv' (by simp)
    refine ⟨W, hr, _, hMW, Grouped.push_new hi hG hn (PS.keep hv' kW (fun b hb => ?_)) (fun y hy => hother W w2 _ y k kW hy ?_) (fun y hy => ?_), kW⟩
    · rw [hgv] at hb
      obtain rfl := Option.some.inj hb
      intro h
      simp [In] at h
      omega
    · obtain ⟨g, hg, _⟩ := (hG.own y hy).own_some (hG.some_ y hy)
      rw [hg]
      intro h
      cases h
    · obtain ⟨g, hg, _, hg2⟩ := (hG.own y hy).own_some (hG.some_ y hy)
      rw [hg]
      rcases hl with hl | ⟨g', hl, hg'⟩
      · rw [hl]; intro h; cases h
      · rw [hl]; intro h; have := Option.some.inj h; omega
  · have hx : x ∈ a ++ x :: b := by simp
    have hap := hG.apart
    rw [List.pairwise_append, List.pairwise_cons] at hap
    have hne : ∀ y ∈ a ++ b, y ∈ a ++ x :: b ∧ y.v.ownBlock ≠ x.v.ownBlock := fun y hy => by
      rcases List.mem_append.1 hy with hy | hy
      · exact ⟨by simp [hy], hap.2.2 y hy x (List.mem_cons_self ..)⟩
      · exact ⟨by simp [hy], (hap.2.1.1 y hy).symm⟩
    refine ⟨x.v, x.ps, fun W hW => by rw [← hxk]; exact run_lookup_some W mb a b x hW (by rw [hxk]; exact hn), hG.own x hx, ?_, fun v' w2 hv' k hl => ?_⟩
    · rw [hG.of x hx, List.length_map]
      refine Nat.le_trans (List.length_filter_le _ _) ?_
      simp; omega
    · obtain ⟨gx, hgx, hgx1, hgx2⟩ := (hG.own x hx).own_some (hG.some_ x hx)
      have hM2 := hM.keep k (fun h => by rw [hgx] at h; have := Option.some.inj h; omega)
      obtain ⟨W, hr, hMW, kW⟩ := run_update_some w2 mb a b x ⟨fs[i].k, v', x.ps ++ [fs[i].blk]⟩ hM2 hxk hn
      obtain ⟨gv, hgv, hgv1, hgv2⟩ := PS.own_some hv' (by simp)
      refine ⟨W, hr, _, hMW, Grouped.push_old hi hG hxk (PS.keep hv' kW (fun b hb => ?_)) (fun y hy => hother W w2 _ y k kW (hne y hy).1 (hne y hy).2) (fun y hy => ?_), kW⟩
      · rw [hgv] at hb
        obtain rfl := Option.some.inj hb
        intro h
        simp [In] at h
        omega
      · obtain ⟨g, hg, _, hg2⟩ := (hG.own y (hne y hy).1).own_some (hG.some_ y (hne y hy).1)
        rcases hl with hl | ⟨g', hl, hg'⟩
        · rw [hl]; exact (hne y hy).2
        · rw [hl, hg]; intro h; have := Option.some.inj h; omega

set_option maxRecDepth 100000 in
set_option maxHeartbeats 2000000 in
theorem makeHeaderMap_any (lb cap lo hi : Nat) (fs : List Fd) (len : Nat) (hlen : len = fs.length) (w : World) (hp : PtrsAt w lb (fs.map (·.blk))) (hf : Fds w lo hi fs) (hhi : hi ≤ w.heap.size) (hn : fs.length ≤ 1000000) :
    Calls Tryd.prog 58 #[.slice (some ⟨lb, 0, none⟩) len cap] w (MhmPost fs w) := by
  have hlb := hp.lt
  have HP := Lib.hid hp
  have HF := Lib.hid hf
  have HL := Lib.hid hlen
  have hmm := run_makeMap_n
  have hlen2 : len ≤ 1000000 := by omega
  clear hp hf hlen
  go_enter Tryd.func58, Tryd.ntmps58
  by_cases h0 : len = 0
  · subst h0
    go_wp2
    go_ret
    exact ⟨none, rfl, .inl ⟨rfl, List.length_eq_zero_iff.1 HL.out.symm⟩, Keeps.refl _ _⟩
  · have e0 : ((len : Int) == 0) = false := by simp; omega
    go_wp2
    go_loopg [14] len (fun n s14 wr => ∃ (i : Nat) (gs : List Grp), s14 = .int .i64 i ∧ i + n = len ∧ MapE wr w.heap.size gs ∧ Grouped wr (w.heap.size + 1) gs (fs.take i) ∧ Keeps (Up w.heap.size []) w wr ∧ w.heap.size + 1 ≤ wr.heap.size)
    case atStart => exact ⟨0, [], rfl, by omega, ⟨#[], 0, heap_alloc_new w _, rfl⟩, Grouped.nil _ _ _, (Keeps.refl _ w).alloc _, by simp⟩
    case round =>
      obtain ⟨i, gs, rfl, hin, hM, hG, K, hsz⟩ := hrel
      have HIN := Lib.hid hin
      have HM := Lib.hid hM
      have HG := Lib.hid hG
      have hi0 : i ≤ len := by omega
      clear hin hM hG
      by_cases hi : i < len
      · have hil : i < fs.length := by have := HL.out; omega
        have hfi := (HF.out fs[i] (List.getElem_mem _)).keep K (fun x h => by rcases h with h | h; cases h; omega)
        have hx1 : wr.cell? ⟨lb, i, none⟩ = some (.pointer (some ⟨fs[i].blk, 0, none⟩)) := by
          have := (HP.out.keep K (fun h => by rcases h with h | h; cases h; omega)).cell (i := i) (by simpa using hil)
          simpa using this
        have hx2 : wr.cell? ⟨fs[i].blk, 1, none⟩ = some (str fs[i].k) := hfi.B.cell 1
        have hblk : fs[i].blk < w.heap.size := by have := hfi.lt; omega
        obtain ⟨v0, ps0, hlk, hown, hpl, hfin⟩ := group_step hil HM.out HG.out (Nat.lt_succ_self _)
        generalize hfb : fs[i].blk = fb at *
        generalize hfk : fs[i].k = fk at *
        have HFIN := Lib.hid hfin
        have HOWN := Lib.hid hown
        clear hfi hfb hfk hfin hown
        have hii : (i : Int) < (len : Int) := by omega
        have e1 : decide ((i : Int) < (len : Int)) = true := decide_eq_true (by omega)
        go_wp2
        refine region_eff [0, 1, 2, 3, 4, 5, 6, 7, 8, 9, 10, 11, 12, 13, 14] [15, 16] 17 (fun W => W.cell? ⟨lb, i, none⟩ = some (.pointer (some ⟨fb, 0, none⟩)) ∧ W.cell? ⟨fb, 1, none⟩ = some (str fk) ∧ MapE W w.heap.size gs) (by kernel_rfl) (by kernel_rfl) ?_ ?_
        · exact ⟨hx1, hx2, HM.out.keep ((Keeps.refl No _).drew) (fun h => h)⟩
        intro ι F hne hF
        have c1 := fun j => (hF j).1
        have c2 := fun j => (hF j).2.1
        have c3 := fun j => hlk _ (hF j).2.2
        clear hF hlk
        simp only [pick, List.filterMap_cons, List.filterMap_nil, List.getElem?_cons_succ, List.getElem?_cons_zero, List.drop_succ_cons, List.drop_zero]
        repeat (quiet_step (fail))
        refine wpQuiet_nil ?_
        have hM := HM.out
        obtain ⟨i0, hi, hz0, hz1, hz2⟩ := info_parts info_hf
        rw [wpEffs]
        go_wp2
        have kA : Keeps No wr (wr.alloc (.cells #[.pointer (some ⟨fb, 0, none⟩)] 67)).drew := ((Keeps.refl No wr).alloc _).drew
        refine EffPost.intro ⟨?_, ?_, ?_⟩ ?_
        · exact kA.cell hx1 (fun h => h)
        · exact kA.cell hx2 (fun h => h)
        · exact hM.keep kA (fun h => h)
        rw [wpEffs]
        go_wp2_with (at_builtin; refine wpList_append_own_at _ rfl (.tmp 29) (.tmp 34) 42 rfl (w.heap.size + 1) 67 i0 (.pointer none) 1 8 Tryd.underlying42 hi hz0 hz1 hz2 rfl (by decide) v0 ps0.length (ptrs ps0) rfl (PS.keep HOWN.out kA (fun _ _ h => h)) ⟨wr.heap.size, 0, none⟩ 1 1 (ptrs [fb]) rfl rfl ?c1 (ptrs_one _) ?c3 ?c4 ?c5 ?_)
        case c1 =>
          intro j u hj
          match j, hj with
          | 0, hj => simp [ptrs] at hj; subst hj; simp [Addr.add]
          | j + 1, hj => simp [ptrs] at hj
        case c3 => unfold maxLen; omega
        case c4 => omega
        case c5 => simp; omega
        intro v' w2 hown' hgrow _ hloc
        have kG : Keeps (fun k => v0.ownBlock = some k) wr w2 := (kA.of_no).grown hgrow (fun k hk => .inl hk)
        have hloc' : v'.ownBlock = v0.ownBlock ∨ ∃ g, v'.ownBlock = some g ∧ wr.heap.size ≤ g := hloc.imp id (fun h => ⟨_, h, by simp⟩)
        have hP : PS w2 (w.heap.size + 1) v' (ps0 ++ [fb]) := by
          rw [← ptrs_append, show ps0.length + 1 = (ps0 ++ [fb]).length by simp] at hown'
          exact hown'
        have hlb' : v0.ownBlock ≠ some lb := fun h => by
          have := (HOWN.out.lt lb h).1
          omega
        have hfb' : v0.ownBlock ≠ some fb := fun h => by
          have := (HOWN.out.lt fb h).1
          omega
        have hmb' : v0.ownBlock ≠ some w.heap.size := fun h => by
          have := (HOWN.out.lt _ h).1
          omega
        have HUP := Lib.hid (HFIN.out v' w2 hP kG hloc')
        go_wp2
        refine EffPost.intro ⟨kG.cell hx1 hlb', kG.cell hx2 hfb', hM.keep kG hmb'⟩ ?_
        rw [wpEffs]
        go_wp2_with (at_mapUpdate; refine wpList_update rfl (.tmp 19) (.tmp 23) (.tmp 35) rfl w.heap.size fk v' rfl rfl rfl HUP.out ?_; rintro W ⟨gs', hM', hG', kW⟩)
        go_wp2
        go_roundg (gk - 1)
        case measure => have := HIN.out; omega
        case rel =>
          refine ⟨i + 1, gs', by simp, by have := HIN.out; omega, hM', hG', ?_, ?_⟩
          · refine (K.trans' (kG.mono (fun k _ h => ?_))).trans' (kW.mono (fun k _ h => ?_))
            · exact .inr (by have := (HOWN.out.lt k h).1; omega)
            · exact .inr (by simp [In] at h; omega)
          · have := kG.size; have := kW.size; omega
      · have e1 : decide ((i : Int) < (len : Int)) = false := decide_eq_false (by omega)
        have hil : i = len := by omega
        go_wp2
        go_ret
        refine ⟨some w.heap.size, rfl, .inr ⟨w.heap.size, gs, rfl, Nat.le_refl _, HM.out, ?_⟩, (K.down (Nat.le_refl _)).mono (fun _ _ h => by cases h)⟩
        have hG := HG.out
        rw [hil, HL.out, List.take_length] at hG
        exact ⟨hG.keys, hG.apart, fun x hx => PS.mono (hG.own x hx) (Nat.le_succ _), hG.some_, hG.of, hG.all⟩
end Go.Proofs.YtjbbapodcngnaaaDoor
