/- laws.structs7: one structure of its parts. laws.structs7, of any structure. laws.sameStructs7: what is the same is told so. The law FnStructured answers true. -/
import Derived.Test.YtjbbapodcngnaaaGreatDoorZtja
import Derived.Lib.SmallJoins
import Derived.Test.YtjbbapodcngnaaaGreatDoorZtae
namespace Go.Proofs.YtjbbapodcngnaaaGreatDoor.G
open Go.RowKit Hdr

theorem own_set {w : World} {base : Nat} {e : TypeId} {size n cap g : Nat} {xs : List Value} (h : w.ownsRow base e size (.slice (some ⟨g, 0, none⟩) n cap) n xs) (j : Nat) (u : Value) : (w.setCell ⟨g, j, none⟩ u).ownsRow base e size (.slice (some ⟨g, 0, none⟩) n cap) n (xs.set j u) := by
  obtain ⟨h1, h2⟩ := h
  refine ⟨by rw [List.length_set]; exact h1, ?_⟩
  rcases h2 with ⟨h0, _⟩ | ⟨g', cap', cur, he, hb, hg, hc1, hc2, hcz, ht⟩
  · cases h0
  · simp only [Value.slice.injEq, Option.some.injEq, Addr.mk.injEq, and_true, true_and] at he
    obtain ⟨rfl, rfl⟩ := he
    refine .inr ⟨g, cap, cur.setIfInBounds j u, rfl, hb, Go.Joins.block_setCell hg u, hc1, hc2, by rw [Array.size_setIfInBounds]; exact hcz, ?_⟩
    rw [Array.toList_setIfInBounds, List.take_set, ht]
def setSize (r : SR) (m : Nat) : SR := ⟨r.type, r.sub, r.params, r.id, r.about, r.way, r.bytes, r.lines, m⟩
/-- The first one's number of parts is set. -/
theorem sts_set {w : World} {base g n cap m : Nat} {r : SR} {rs : List SR} (hn : n = rs.length + 1) (h : StsAt w base (.slice (some ⟨g, 0, none⟩) n cap) (r :: rs)) : StsAt (w.setCell ⟨g, 8, none⟩ (.int .i64 m)) base (.slice (some ⟨g, 0, none⟩) n cap) (setSize r m :: rs) := by
  obtain ⟨ps, h1, h2, h3⟩ := h
  subst hn
  cases ps with
  | nil => cases h1
  | cons x ps =>
    simp only [List.map_cons, List.cons.injEq] at h1
    obtain ⟨hx, h1⟩ := h1
    subst hx
    rw [List.length_cons] at h2
    have h4 := own_set h2 8 (.int .i64 m)
    refine ⟨(setSize x.1 m, x.2) :: ps, congrArg (List.cons (setSize x.1 m)) h1, ?_, ?_⟩
    · rw [List.length_cons]
      exact h4
    · have kk : Keeps (fun y => y = g) w (w.setCell ⟨g, 8, none⟩ (.int .i64 m)) := (Keeps.refl (fun y => y = g) w).setCell (p := ⟨g, 8, none⟩) (.inl rfl) _
      intro y hy
      rcases List.mem_cons.1 hy with rfl | hy
      · exact rowK (h3 x (List.mem_cons_self ..)) kk (fun b hb e => row_ne (h3 x (List.mem_cons_self ..)) h2 (by decide) b hb (by rw [e]; rfl))
      · exact rowK (h3 y (List.mem_cons_of_mem _ hy)) kk (fun b hb e => row_ne (h3 y (List.mem_cons_of_mem _ hy)) h2 (by decide) b hb (by rw [e]; rfl))
theorem ssizes_ge : ∀ l : List Sh, l.length ≤ ssizes l
  | [] => by simp
  | x :: l => by
    have := ssizes_ge l
    obtain ⟨_, _, _, _, _, _, _, _, _⟩ := x
    rw [ssizes_cons, ssize_eq, List.length_cons]
    omega
mutual
/-- No number is great. -/
def ShSmall : Sh → Prop
  | .mk _ _ _ _ _ _ n l ps => n ≤ 1000000 ∧ l ≤ 1000000 ∧ ShsSmall ps
def ShsSmall : List Sh → Prop
  | [] => True
  | x :: l => ShSmall x ∧ ShsSmall l
end
theorem ShSmall_eq (t s b i a y : List UInt8) (n l : Nat) (ps : List Sh) : ShSmall (.mk t s b i a y n l ps) = (n ≤ 1000000 ∧ l ≤ 1000000 ∧ ShsSmall ps) := by rw [ShSmall]
theorem ShsSmall.get : ∀ (l : List Sh), ShsSmall l → ∀ (i : Nat) (x : Sh), l[i]? = some x → ShSmall x
  | y :: l, h, 0, x, hi => by rw [ShsSmall] at h; simp at hi; subst hi; exact h.1
  | y :: l, h, i + 1, x, hi => by rw [ShsSmall] at h; exact ShsSmall.get l h.2 i x (by simpa using hi)
theorem flats_take (l : List Sh) (i : Nat) (x : Sh) (h : l[i]? = some x) : flats (l.take (i + 1)) = flats (l.take i) ++ flat x := by
  rw [List.take_add_one, h]
  simp only [Option.toList_some]
  rw [flats_append, flats_cons, flats_nil, List.append_nil]
theorem flats_take_len (l : List Sh) (i : Nat) : (flats (l.take i)).length ≤ (flats l).length := by
  have : flats l = flats (l.take i) ++ flats (l.drop i) := by rw [← flats_append, List.take_append_drop]
  rw [this, List.length_append]
  omega
theorem own_par (wy : World) (b base : Nat) (hb : b = wy.heap.size) (k v : List UInt8) (hba : base ≤ b) : (wy.alloc (.cells #[str k, str v] 102)).ownsRow base 102 2 (.slice (some ⟨b, 0, none⟩) 1 1) 1 (parCs [(k, v)]) := by
  subst hb
  exact ⟨rfl, .inr ⟨wy.heap.size, 1, #[str k, str v], rfl, hba, heap_alloc_new wy _, Nat.le_refl _, by unfold maxLen; omega, rfl, rfl⟩⟩

theorem row_blk_ne {w : World} {base n size g : Nat} {e t : TypeId} {v : Value} {xs cs : List Value} (h : w.ownsRow base e size v n xs) (hB : Blk w g cs t) (hne : e ≠ t) : ¬ v.ownBlock = some g := by
  intro hb
  rcases h.2 with ⟨rfl, _⟩ | ⟨g', cap, cur, rfl, _, hg, _⟩
  · cases hb
  · simp [Value.ownBlock] at hb
    subst hb
    unfold Blk at hB
    rw [hB] at hg
    injection hg with hg
    injection hg with _ hg _
    exact hne hg.symm
/-- Behind the parameters. -/
structure ParAt (w : World) (bc : List Value) (r : SR) (wc : World) : Prop where
  B0 : Blk wc w.heap.size bc 46
  R : ∃ pvv, Blk wc (w.heap.size + 1) (stC r pvv 1) 100 ∧ wc.ownsRow w.heap.size 102 2 pvv r.params.length (parCs r.params)
  K : Keeps No w wc
theorem two_blks (w : World) (c0 c1 : List Value) (t0 t1 : TypeId) :
    Blk ((w.alloc (.cells c0.toArray t0)).alloc (.cells c1.toArray t1)) w.heap.size c0 t0 ∧ Blk ((w.alloc (.cells c0.toArray t0)).alloc (.cells c1.toArray t1)) (w.heap.size + 1) c1 t1 ∧ Keeps No w ((w.alloc (.cells c0.toArray t0)).alloc (.cells c1.toArray t1)) ∧
      ((w.alloc (.cells c0.toArray t0)).alloc (.cells c1.toArray t1)).heap.size = w.heap.size + 1 + 1 := by
  generalize e1 : w.alloc (.cells c0.toArray t0) = w1
  have s1 : w1.heap.size = w.heap.size + 1 := by rw [← e1]; simp
  have b0 : Blk w1 w.heap.size c0 t0 := by rw [← e1]; exact Blk.alloc_at rfl c0 _
  have k1 : Keeps No w w1 := by rw [← e1]; exact (Keeps.refl No w).alloc _
  generalize e2 : w1.alloc (.cells c1.toArray t1) = w2
  have s2 : w2.heap.size = w.heap.size + 1 + 1 := by rw [← e2]; simp; exact s1
  have b1 : Blk w2 (w.heap.size + 1) c1 t1 := by rw [← e2]; exact Blk.alloc_at s1.symm c1 _
  have k2 : Keeps No w w2 := by rw [← e2]; exact k1.alloc _
  exact ⟨b0.alloc_eq e2, b1, k2, s2⟩
def parOf (b : List UInt8) : List (List UInt8 × List UInt8) := if b = [] then [] else [(bndK, b)]

set_option maxRecDepth 100000 in
set_option maxHeartbeats 4000000 in
theorem structs7_node (t s b i a y : List UInt8) (n l : Nat) (pa : Option Addr) (pm pc : Nat) (ps : List Sh) (qs : List (List Value)) (m : Nat) (w : World) (A : Nat → Prop) (hpm : pm = ps.length) (hml : (flats ps).length = m) (hm : m ≤ 1000) (hn : n ≤ 1000000) (hl : l ≤ 1000000)
    (hrow : w.ownsRow 0 46 9 (.slice pa pm pc) pm qs.flatten) (hqs : ShsC w A ps qs)
    (IH : ∀ (j : Nat) (t' s' b' i' a' y' : List UInt8) (n' l' : Nat) (ps' : List Sh) (pa' : Option Addr) (pm' pc' : Nat), ps[j]? = some (.mk t' s' b' i' a' y' n' l' ps') → ShC w A (.mk t' s' b' i' a' y' n' l' ps') [str t', str s', str b', str i', str a', str y', .int .i64 n', .int .i64 l', .slice pa' pm' pc'] → ∀ W, Keeps No w W →
      Calls Tryz.prog 20 #[.agg #[str t', str s', str b', str i', str a', str y', .int .i64 n', .int .i64 l', .slice pa' pm' pc']] W (StPost (flat (.mk t' s' b' i' a' y' n' l' ps')) W)) :
    Calls Tryz.prog 20 #[.agg #[str t, str s, str b, str i, str a, str y, .int .i64 n, .int .i64 l, .slice pa pm pc]] w (StPost (⟨t, s, parOf b, i, a, y, n, l, 1 + m⟩ :: flats ps) w) := by
  have HROW := Lib.hid hrow
  have HQS := Lib.hid hqs
  have HIH := Lib.hid IH
  have HML := Lib.hid hml
  have hpl : ps.length ≤ m := by rw [← hml, flats_len]; exact ssizes_ge ps
  have hwn : IntKind.u32.wrap (n : Int) = (n : Int) := by unfold IntKind.wrap; simp [IntKind.bits, IntKind.signed]; omega
  have hwl : IntKind.u32.wrap (l : Int) = (l : Int) := by unfold IntKind.wrap; simp [IntKind.bits, IntKind.signed]; omega
  have HPM := Lib.hid hpm
  clear hrow hqs IH hml hpm
  go_enter Tryz.func20, Tryz.ntmps20
  go_upto_if 25 with (fail)
  go_cut [] (fun wx => ParAt w [str t, str s, str b, str i, str a, str y, .int .i64 n, .int .i64 l, .slice pa pm pc] ⟨t, s, parOf b, i, a, y, n, l, 1⟩ wx)
  case first =>
    go_wp2
    · rename_i h0
      have hb : b ≠ [] := fun e => by rw [e] at h0; cases h0
      have hp : parOf b = [(bndK, b)] := if_neg hb
      have HP := Lib.hid hp
      clear hb h0 hp
      go_meet
      case rel =>
        obtain ⟨b0, b1, b2, k, hsz⟩ := three_blks w [str t, str s, str b, str i, str a, str y, .int .i64 n, .int .i64 l, .slice pa pm pc] (stC ⟨t, s, parOf b, i, a, y, n, l, 1⟩ (.slice (some ⟨w.heap.size + 1 + 1, 0, none⟩) 1 1) 1) [str bndK, str b] 46 100 102
        refine ⟨b0, ⟨_, b1, ?_⟩, k⟩
        show World.ownsRow _ w.heap.size 102 2 _ (parOf b).length (parCs (parOf b))
        rw [HP.out]
        exact own_par _ _ _ (by simp) bndK b (by omega)
    · rename_i h0
      have hb : b = [] := by cases b; rfl; cases h0
      have hp : parOf b = [] := if_pos hb
      have HP := Lib.hid hp
      clear hb h0 hp
      go_meet
      case rel =>
        obtain ⟨b0, b1, k, hsz⟩ := two_blks w [str t, str s, str b, str i, str a, str y, .int .i64 n, .int .i64 l, .slice pa pm pc] (stC ⟨t, s, parOf b, i, a, y, n, l, 1⟩ (.slice none 0 0) 1) 46 100
        refine ⟨b0, ⟨_, b1, ?_⟩, k⟩
        show World.ownsRow _ w.heap.size 102 2 _ (parOf b).length (parCs (parOf b))
        rw [HP.out]
        exact World.ownsRow_nil _ _ _ _
  case rest =>
    obtain ⟨B0, ⟨pvv, B1, hpar⟩, K⟩ := hcut
    obtain ⟨qa, qm, qc, rfl⟩ := rowV hpar
    obtain ⟨r0, hr0⟩ : ∃ r0 : SR, r0 = ⟨t, s, parOf b, i, a, y, n, l, 1⟩ := ⟨_, rfl⟩
    have HS0 := Lib.hid (show StsAt (wc.alloc (.cells #[str t, str s, .slice qa qm qc, str i, str a, str y, .int .u32 n, .int .u32 l, .int .i64 1] 100)) w.heap.size (.slice (some ⟨wc.heap.size, 0, none⟩) 1 1) [r0] from ⟨[(r0, .slice qa qm qc)], rfl, by subst hr0; exact own_one wc wc.heap.size w.heap.size rfl (stC ⟨t, s, parOf b, i, a, y, n, l, 1⟩ (.slice qa qm qc) 1) rfl K.size, fun x hx => by
      rw [List.mem_singleton] at hx
      subst hx
      subst hr0
      exact rowK hpar ((Keeps.refl No wc).alloc _) (fun _ _ h => h)⟩)
    have c0 := B1.cell 0
    have c1 := B1.cell 1
    have c2 := B1.cell 2
    have c3 := B1.cell 3
    have c4 := B1.cell 4
    have c5 := B1.cell 5
    have c6 := B1.cell 6
    have c7 := B1.cell 7
    have c8 := B1.cell 8
    simp only [stC, List.getElem?_cons_succ, List.getElem?_cons_zero] at c0 c1 c2 c3 c4 c5 c6 c7 c8
    have HB0 := Lib.hid B0
    have HK := Lib.hid K
    have HR0 := Lib.hid hr0
    clear B0 B1 hpar K hr0
    go_upto_region 5 with (fail)
    have KD : Keeps No wc (wc.alloc (.cells #[str t, str s, .slice qa qm qc, str i, str a, str y, .int .u32 n, .int .u32 l, .int .i64 1] 100)) := (Keeps.refl No wc).alloc _
    generalize (wc.alloc (.cells #[str t, str s, .slice qa qm qc, str i, str a, str y, .int .u32 n, .int .u32 l, .int .i64 1] 100)) = wD at *
    have HKD := Lib.hid KD
    clear KD c0 c1 c2 c3 c4 c5 c6 c7 c8
    go_wp2
    go_loopg [4, 5] pm (fun q s4 s5 wr => ∃ j : Nat, s5 = .int .i64 j ∧ j + q = pm ∧ StsAt wr w.heap.size s4 (r0 :: flats (ps.take j)) ∧ Blk wr w.heap.size [str t, str s, str b, str i, str a, str y, .int .i64 n, .int .i64 l, .slice pa pm pc] 46 ∧ Keeps No w wr)
    case atStart => exact ⟨0, rfl, Nat.zero_add _, by rw [List.take_zero, flats_nil]; exact HS0.out, HB0.out.keep_no HKD.out, HK.out.trans_no HKD.out⟩
    case round =>
      obtain ⟨j, rfl, hjn, ⟨p1, e1, r1, q1⟩, hbr, KR⟩ := hrel
      have HBR := Lib.hid hbr
      have hfl := flats_take_len ps j
      rw [HML.out] at hfl
      obtain ⟨c, hc⟩ : ∃ c, c = (r0 :: flats (ps.take j)).length := ⟨_, rfl⟩
      rw [← hc] at r1
      have HC := Lib.hid hc
      have hcl : c ≤ 1 + m := by rw [hc, List.length_cons]; omega
      have hc1 : 0 < c := by rw [hc, List.length_cons]; omega
      clear hc hfl
      obtain ⟨fa, fc, rfl⟩ := rowVn r1
      have HKR := Lib.hid KR
      have HE1 := Lib.hid e1
      have HQ1 := Lib.hid q1
      have HIN := Lib.hid hjn
      have s8 : wr.cell? ⟨w.heap.size, 8, none⟩ = some (.slice pa pm pc) := hbr.cell 8
      by_cases hj : j < pm
      · obtain ⟨x, hx⟩ : ∃ x, ps[j]? = some x := ⟨_, List.getElem?_eq_getElem (by have := HPM.out; omega)⟩
        have hlt : decide ((j : Int) < (pm : Int)) = true := decide_eq_true (by omega)
        have hlt2 : (j : Int) < (pm : Int) := by omega
        have hj0 : (0 : Int) ≤ (j : Int) := by omega
        obtain ⟨cx, hcx, hsx, hcells⟩ := ShsC.get ps qs HQS.out j x hx
        obtain ⟨g, cap, hge, hgc⟩ := row_pos HROW.out (by omega)
        have hcap : pm ≤ pc := by
          rcases HROW.out.2 with ⟨h1, _⟩ | ⟨_, _, _, h1, _, _, h2, _⟩
          · rw [h1] at hge; cases hge
          · simp only [Value.slice.injEq, true_and] at h1
            omega
        simp only [Value.slice.injEq, true_and] at hge
        obtain ⟨rfl, rfl⟩ := hge
        obtain ⟨t', s', b', i', a', y', n', l', ps'⟩ := x
        have hsx2 := hsx
        rw [ShC_eq] at hsx2
        obtain ⟨pv', css', rfl, hrow', _, _⟩ := hsx2
        obtain ⟨pa', pm', pc', rfl⟩ := rowV hrow'
        have KW := HKR.out
        have d0 := KW.cell (hgc _ _ (hcells 0 _ rfl)) (fun h => h)
        have d1 := KW.cell (hgc _ _ (hcells 1 _ rfl)) (fun h => h)
        have d2 := KW.cell (hgc _ _ (hcells 2 _ rfl)) (fun h => h)
        have d3 := KW.cell (hgc _ _ (hcells 3 _ rfl)) (fun h => h)
        have d4 := KW.cell (hgc _ _ (hcells 4 _ rfl)) (fun h => h)
        have d5 := KW.cell (hgc _ _ (hcells 5 _ rfl)) (fun h => h)
        have d6 := KW.cell (hgc _ _ (hcells 6 _ rfl)) (fun h => h)
        have d7 := KW.cell (hgc _ _ (hcells 7 _ rfl)) (fun h => h)
        have d8 := KW.cell (hgc _ _ (hcells 8 _ rfl)) (fun h => h)
        simp only [Nat.add_zero] at d0
        have CIH := Lib.hid (HIH.out j t' s' b' i' a' y' n' l' ps' pa' pm' pc' hx hsx wr KW)
        have HFT := Lib.hid (flats_take ps j _ hx)
        have hrl2 := flats_take_len ps (j + 1)
        rw [HML.out, flats_take ps j _ hx, List.length_append] at hrl2
        obtain ⟨rs, hrs⟩ : ∃ rs, rs = flat (.mk t' s' b' i' a' y' n' l' ps') := ⟨_, rfl⟩
        rw [← hrs] at CIH HFT hrl2
        have HRL := Lib.hid (show c + rs.length ≤ 1001 by rw [HC.out, List.length_cons]; omega)
        have hw1 : IntKind.i64.wrap ((j : Int) + 1) = (j : Int) + 1 := IntWalk.i64_in _ (by have := HPM.out; omega)
        have R1 := Lib.hid r1
        clear e1 r1 q1 KR hbr hjn hcx hsx hcells hgc hrow' KW hx hrl2 hrs
        go_wp2_with (fail)
        refine CIH.out.mono ?_
        rintro e w2 ⟨v2, rfl, ⟨ps2, e2, r2, q2⟩, K2⟩
        obtain ⟨va, vc, rfl⟩ := rowVn r2
        have R1' := Lib.hid (rowK R1.out K2 (fun _ _ h => h))
        have R2 := Lib.hid r2
        have HON := Lib.hid (stCs_ones q2)
        have HBB := Lib.hid (show w.heap.size ≤ w2.heap.size by have := HKR.out.size; have := K2.size; omega)
        have HRL2 := HRL.out
        have HBW := Lib.hid (fun (W : World) (K : Keeps (fun x => (Value.slice fa c fc).ownBlock = some x) w2 W) => (HBR.out.keep_no K2).keep K (row_blk_ne R1'.out (HBR.out.keep_no K2) (by decide)))
        have HP := Lib.hid (fun (W : World) (v' : Value) (K : Keeps (fun x => (Value.slice fa c fc).ownBlock = some x) w2 W) (hv : W.ownsRow w.heap.size 100 9 v' (c + rs.length) (stCs p1 ++ stCs ps2)) => sts_append (W := W) (v' := v') HE1.out (by rw [← HC.out]; exact R1'.out) (fun x hx => rowK (HQ1.out x hx) K2 (fun _ _ h => h)) e2 (fun x hx => rowBase (q2 x hx) (by have := HKR.out.size; omega)) K (by rw [← HC.out]; exact hv))
        have HK2 := Lib.hid K2
        clear r2 q2 e2 K2 d0 d1 d2 d3 d4 d5 d6 d7 d8 s8
        go_wp2_with (at_builtin; refine wpList_append_st rfl (.tmp 40) (.tmp 46) rfl w.heap.size wr.heap.size c rs.length _ _ (stCs p1) (stCs ps2) rfl R1'.out rfl R2.out HON.out (by omega) HBB.out ?_; intro v' W hv KW)
        have HPP := Lib.hid (HP.out W v' KW hv)
        have HBWW := Lib.hid (HBW.out W KW)
        have HKW := Lib.hid (show Keeps No w W from ((HKR.out.trans_no HK2.out).trans KW (fun b hb h => by have := (World.ownsRow.lt R1'.out b h).1; omega)))
        obtain ⟨ga, gc, rfl⟩ := rowVn hv
        clear hv KW
        go_wp2
        go_roundg (gk - 1)
        case measure => have := HIN.out; omega
        case rel => exact ⟨j + 1, by simp, by have := HIN.out; omega, by rw [HFT.out]; exact HPP.out, HBWW.out, HKW.out⟩
      · have hlt : decide ((j : Int) < (pm : Int)) = false := decide_eq_false (by omega)
        have hlt2 : ¬ ((j : Int) < (pm : Int)) := by omega
        have hte : ps.take j = ps := List.take_of_length_le (by have := HPM.out; omega)
        have hce := HC.out
        rw [hte, List.length_cons, HML.out] at hce
        rw [hte] at e1
        have hst : StsAt wr w.heap.size (.slice fa c fc) (r0 :: flats ps) := ⟨p1, e1, by rw [List.length_cons, HML.out, ← hce]; exact r1, q1⟩
        obtain ⟨g, cap, hge, hgc⟩ := row_pos r1 hc1
        have hcap : c ≤ fc := by
          rcases r1.2 with ⟨h1, _⟩ | ⟨_, _, _, h1, _, _, h2, _⟩
          · rw [h1] at hge; cases hge
          · simp only [Value.slice.injEq, true_and] at h1
            omega
        have hfz : ∀ k, wr.frozen? ⟨g, k, none⟩ = false := by
          rcases r1.2 with ⟨h1, _⟩ | ⟨g', _, _, h1, _, h2, _⟩
          · rw [h1] at hge; cases hge
          · intro k
            rw [h1] at hge
            simp only [Value.slice.injEq, Option.some.injEq, Addr.mk.injEq, and_true, true_and] at hge
            obtain ⟨rfl, rfl⟩ := hge
            exact Go.Joins.unfrozen_of_block h2 k
        simp only [Value.slice.injEq, true_and] at hge
        obtain ⟨rfl, rfl⟩ := hge
        have hc8 : ∃ u, wr.cell? ⟨g, 8, none⟩ = some u := by
          match p1, e1 with
          | x :: p1, _ => exact ⟨_, hgc 8 (.int .i64 x.1.size) rfl⟩
        obtain ⟨u8, hc8⟩ := hc8
        have HST := Lib.hid hst
        have HCE := Lib.hid hce
        have hcpos : (0 : Int) < (c : Int) := by omega
        clear hte hce e1 r1 q1 KR hbr hjn hst hgc
        go_wp2
        go_ret
        have hfin := sts_set (m := c) (show c = (flats ps).length + 1 by rw [HML.out]; have := HCE.out; omega) HST.out
        refine ⟨_, rfl, ?_, HKR.out.trans (T := fun x => x = g) ((Keeps.refl (fun x => x = g) wr).setCell (p := ⟨g, 8, none⟩) (.inl rfl) _) (fun x hx e => by
          obtain ⟨_, _, h2, _⟩ := HST.out
          have := (World.ownsRow.lt h2 g rfl).1
          omega)⟩
        have hr : setSize r0 c = ⟨t, s, parOf b, i, a, y, n, l, 1 + m⟩ := by rw [HR0.out, show c = 1 + m by have := HCE.out; omega]; rfl
        rw [← hr]
        exact hfin
end Go.Proofs.YtjbbapodcngnaaaGreatDoor.G
namespace Go.Proofs.YtjbbapodcngnaaaGreatDoor.G
open Go.RowKit Hdr

theorem structs7_all (N : Nat) : ∀ (t s b i a y : List UInt8) (n l : Nat) (ps : List Sh), ssize (.mk t s b i a y n l ps) ≤ N → N ≤ 1000 → ShSmall (.mk t s b i a y n l ps) → ∀ (pa : Option Addr) (pm pc : Nat) (w : World) (A : Nat → Prop),
    ShC w A (.mk t s b i a y n l ps) [str t, str s, str b, str i, str a, str y, .int .i64 n, .int .i64 l, .slice pa pm pc] → ∀ W, Keeps No w W →
      Calls Tryz.prog 20 #[.agg #[str t, str s, str b, str i, str a, str y, .int .i64 n, .int .i64 l, .slice pa pm pc]] W (StPost (flat (.mk t s b i a y n l ps)) W) := by
  induction N with
  | zero =>
    intro t s b i a y n l ps h
    rw [ssize_eq] at h
    omega
  | succ N ih =>
    intro t s b i a y n l ps hsz hN hsm pa pm pc w A h W K
    rw [ssize_eq] at hsz
    rw [ShSmall_eq] at hsm
    obtain ⟨hn, hl, hps⟩ := hsm
    have h' := ShC.keep K (fun _ _ h => h) _ _ h
    rw [ShC_eq] at h'
    obtain ⟨pv, css, he, hrow, _, hcs⟩ := h'
    simp only [shc, List.cons.injEq, true_and, and_true] at he
    subst he
    have hpm : pm = ps.length := by
      rcases hrow.2 with ⟨h1, h2⟩ | ⟨g, cap, cur, h1, _⟩
      · injection h1 with _ h1 _
        rw [h1, h2]
      · injection h1 with _ h1 _
    rw [← hpm] at hrow
    rw [flat_eq]
    refine structs7_node t s b i a y n l pa pm pc ps css (flats ps).length W A hpm rfl (by rw [flats_len]; omega) hn hl hrow hcs (fun j t' s' b' i' a' y' n' l' ps' pa' pm' pc' hj hc W' K' => ?_)
    have hge := ssizes_get ps j _ hj
    exact ih t' s' b' i' a' y' n' l' ps' (by omega) (by omega) (ShsSmall.get ps hps j _ hj) pa' pm' pc' W A hc W' K'

/-- The structure of a message has no great numbers. -/
theorem shape_small (n : Nat) : ∀ m : Ml, msize m ≤ n → MlOk m → ∀ p : List UInt8, PlOk p → p.length + msize m ≤ 30 → ShSmall (shapeOf m p) := by
  induction n with
  | zero => intro m h; have := msize_pos m; omega
  | succ n ih =>
    intro m hm ok p hp hpl
    have hsz := msize_eq m
    have hlen := (any_lns ok hp hpl).2.2
    have hcle := content_le m p
    have hnl := nlf_le (content m p)
    rw [shapeOf_eq, ShSmall_eq]
    refine ⟨?_, ?_, ?_⟩
    · split <;> omega
    · split
      · omega
      · split <;> omega
    · have : ∀ (l : List Ml) (i : Nat), (∀ k ∈ l, k ∈ m.kids) → ShsSmall (shapesOf l p i) := by
        intro l
        induction l with
        | nil => intro i _; rw [shapesOf_nil, ShsSmall]; trivial
        | cons k l ihl =>
          intro i hk
          rw [shapesOf_cons, ShsSmall]
          have hmem := hk k (List.mem_cons_self ..)
          have h1 := msizes_mem hmem
          exact ⟨ih k (by omega) (ok.kids.mem hmem) (under p i) (under_ok hp i) (by rw [under_len]; omega), ihl (i + 1) fun x hx => hk x (List.mem_cons_of_mem _ hx)⟩
      exact this m.kids 0 fun _ h => h
end Go.Proofs.YtjbbapodcngnaaaGreatDoor.G
namespace Go.Proofs.YtjbbapodcngnaaaGreatDoor.G
open Go.RowKit Hdr

theorem stCs_at : ∀ (l : List (SR × Value)) (i : Nat) (x : SR × Value), l[i]? = some x → ∀ (k : Nat) (u : Value), (stC x.1 x.2 x.1.size)[k]? = some u → (stCs l)[i * 9 + k]? = some u
  | y :: l, 0, x, h, k, u, hu => by
    simp at h
    subst h
    have e : stCs (y :: l) = stC y.1 y.2 y.1.size ++ stCs l := rfl
    have hk : k < (stC y.1 y.2 y.1.size).length := (List.getElem?_eq_some_iff.1 hu).1
    rw [e, Nat.zero_mul, Nat.zero_add, List.getElem?_append_left hk]
    exact hu
  | y :: l, i + 1, x, h, k, u, hu => by
    have e : stCs (y :: l) = stC y.1 y.2 y.1.size ++ stCs l := rfl
    rw [e, List.getElem?_append_right (by simp [stC]; omega), show (i + 1) * 9 + k - (stC y.1 y.2 y.1.size).length = i * 9 + k by simp [stC]; omega]
    exact stCs_at l i x (by simpa using h) k u hu
theorem parCs_at : ∀ (l : List (List UInt8 × List UInt8)) (i : Nat) (x : List UInt8 × List UInt8), l[i]? = some x → (parCs l)[i * 2]? = some (str x.1) ∧ (parCs l)[i * 2 + 1]? = some (str x.2)
  | y :: l, 0, x, h => by
    simp at h
    subst h
    exact ⟨rfl, rfl⟩
  | y :: l, i + 1, x, h => by
    have e : parCs (y :: l) = str y.1 :: str y.2 :: parCs l := rfl
    rw [e, show (i + 1) * 2 = i * 2 + 1 + 1 by omega]
    simp only [List.getElem?_cons_succ]
    exact parCs_at l i x (by simpa using h)
/-- Two structures laid side by side. -/
def BothAt (r : SR) (p1 p2 : Value) (wr : World) (v1 v2 : Value) (wx : World) : Prop :=
  ∃ g1 g2, v1 = .pointer (some ⟨g1, 0, none⟩) ∧ v2 = .pointer (some ⟨g2, 0, none⟩) ∧ Blk wx g1 (stC r p1 r.size) 100 ∧ Blk wx g2 (stC r p2 r.size) 100 ∧ Keeps No wr wx

set_option maxRecDepth 100000 in
set_option maxHeartbeats 8000000 in
theorem same7_any (rs : List SR) (fa1 fa2 : Option Addr) (fc1 fc2 : Nat) (b1 b2 : Nat) (w : World) (h1 : StsAt w b1 (.slice fa1 rs.length fc1) rs) (h2 : StsAt w b2 (.slice fa2 rs.length fc2) rs) (hn : rs.length ≤ 1000) (hpn : ∀ r ∈ rs, r.params.length ≤ 1000) :
    Calls Tryz.prog 19 #[.slice fa1 rs.length fc1, .slice fa2 rs.length fc2] w fun e w' => e = .returned (.bool true) ∧ Keeps No w w' := by
  obtain ⟨q1, e1, r1, s1⟩ := h1
  obtain ⟨q2, e2, r2, s2⟩ := h2
  have R1 := Lib.hid r1
  have R2 := Lib.hid r2
  have S1 := Lib.hid s1
  have S2 := Lib.hid s2
  have E1 := Lib.hid e1
  have E2 := Lib.hid e2
  have HPN := Lib.hid hpn
  clear e1 r1 s1 e2 r2 s2 hpn
  go_enter Tryz.func19, Tryz.ntmps19
  go_wp2
  go_loopg [5] rs.length (fun q s5 wr => ∃ j : Nat, s5 = .int .i64 j ∧ j + q = rs.length ∧ Keeps No w wr)
  case atStart => exact ⟨0, rfl, Nat.zero_add _, Keeps.refl _ _⟩
  case round =>
    obtain ⟨j, rfl, hjn, K⟩ := hrel
    obtain ⟨gq, hgq⟩ : ∃ gq, gq = gk := ⟨_, rfl⟩
    have HGQ := Lib.hid hgq
    clear hgq
    have HJN := Lib.hid hjn
    have HK := Lib.hid K
    have hw1 : IntKind.i64.wrap ((j : Int) + 1) = (j : Int) + 1 := IntWalk.i64_in _ (by omega)
    clear hjn K
    by_cases hj : j < rs.length
    · have hjj : (j : Int) < (rs.length : Int) := by omega
      have hlt : decide ((j : Int) < (rs.length : Int)) = true := decide_eq_true hjj
      obtain ⟨r, hr⟩ : ∃ r, rs[j]? = some r := ⟨_, List.getElem?_eq_getElem hj⟩
      have hrn := HPN.out r (List.mem_of_getElem? hr)
      have hx : ∀ q : List (SR × Value), q.map Prod.fst = rs → ∃ p, q[j]? = some (r, p) := fun q e => by
        rw [← e, List.getElem?_map, Option.map_eq_some_iff] at hr
        obtain ⟨⟨a, p⟩, h1, rfl⟩ := hr
        exact ⟨p, h1⟩
      obtain ⟨p1, hp1⟩ := hx q1 E1.out
      obtain ⟨p2, hp2⟩ := hx q2 E2.out
      have hs1 : w.ownsRow b1 102 2 p1 r.params.length (parCs r.params) := S1.out (r, p1) (List.mem_of_getElem? hp1)
      have hs2 : w.ownsRow b2 102 2 p2 r.params.length (parCs r.params) := S2.out (r, p2) (List.mem_of_getElem? hp2)
      obtain ⟨pa1, pc1, rfl⟩ := rowVn hs1
      obtain ⟨pa2, pc2, rfl⟩ := rowVn hs2
      obtain ⟨g1, cap1, he1, hc1⟩ := row_pos R1.out (by omega)
      obtain ⟨g2, cap2, he2, hc2⟩ := row_pos R2.out (by omega)
      have hcp1 : rs.length ≤ fc1 := by
        rcases R1.out.2 with ⟨h1, _⟩ | ⟨_, _, _, h1, _, _, h2, _⟩
        · rw [h1] at he1; cases he1
        · simp only [Value.slice.injEq, true_and] at h1
          omega
      have hcp2 : rs.length ≤ fc2 := by
        rcases R2.out.2 with ⟨h1, _⟩ | ⟨_, _, _, h1, _, _, h2, _⟩
        · rw [h1] at he2; cases he2
        · simp only [Value.slice.injEq, true_and] at h1
          omega
      simp only [Value.slice.injEq, true_and] at he1 he2
      obtain ⟨rfl, rfl⟩ := he1
      obtain ⟨rfl, rfl⟩ := he2
      have HD1 := Lib.hid (fun k u hu => hc1 _ u (stCs_at q1 j _ hp1 k u hu))
      have HD2 := Lib.hid (fun k u hu => hc2 _ u (stCs_at q2 j _ hp2 k u hu))
      have HS1 := Lib.hid hs1
      have HS2 := Lib.hid hs2
      obtain ⟨ty, sub, par, id, ab, way, nb, nl, sz⟩ := r
      simp only at hrn HS1 HS2 HD1 HD2
      clear hr hx hp1 hp2 hs1 hs2 hc1 hc2
      go_upto_region 6 with (fail)
      go_cut [6, 7] (fun s6 s7 wx => BothAt ⟨ty, sub, par, id, ab, way, nb, nl, sz⟩ (.slice pa1 par.length pc1) (.slice pa2 par.length pc2) wr s6 s7 wx)
      case first =>
        refine region_tree (.fork [0, 1, 2, 3, 4, 5, 6, 7] 8 (.leaf [([], 9), ([], 10)] []) 9 (.leaf [([], 8), ([], 10)] [])) 11 (fun W' => Keeps No wr W') (by kernel_rfl) (by kernel_rfl) ?_ ?_
        · exact (Keeps.refl No wr).drew
        rw [FT.wp]
        simp only [pick, List.filterMap_cons, List.filterMap_nil, List.getElem?_cons_succ, List.getElem?_cons_zero]
        intro ι F hne hF
        have x0 := fun i => (HK.out.trans_no (hF i)).cell (HD1.out 0 _ rfl) (fun h => h)
        have x1 := fun i => (HK.out.trans_no (hF i)).cell (HD1.out 1 _ rfl) (fun h => h)
        have x2 := fun i => (HK.out.trans_no (hF i)).cell (HD1.out 2 _ rfl) (fun h => h)
        have x3 := fun i => (HK.out.trans_no (hF i)).cell (HD1.out 3 _ rfl) (fun h => h)
        have x4 := fun i => (HK.out.trans_no (hF i)).cell (HD1.out 4 _ rfl) (fun h => h)
        have x5 := fun i => (HK.out.trans_no (hF i)).cell (HD1.out 5 _ rfl) (fun h => h)
        have x6 := fun i => (HK.out.trans_no (hF i)).cell (HD1.out 6 _ rfl) (fun h => h)
        have x7 := fun i => (HK.out.trans_no (hF i)).cell (HD1.out 7 _ rfl) (fun h => h)
        have x8 := fun i => (HK.out.trans_no (hF i)).cell (HD1.out 8 _ rfl) (fun h => h)
        have y0 := fun i => (HK.out.trans_no (hF i)).cell (HD2.out 0 _ rfl) (fun h => h)
        have y1 := fun i => (HK.out.trans_no (hF i)).cell (HD2.out 1 _ rfl) (fun h => h)
        have y2 := fun i => (HK.out.trans_no (hF i)).cell (HD2.out 2 _ rfl) (fun h => h)
        have y3 := fun i => (HK.out.trans_no (hF i)).cell (HD2.out 3 _ rfl) (fun h => h)
        have y4 := fun i => (HK.out.trans_no (hF i)).cell (HD2.out 4 _ rfl) (fun h => h)
        have y5 := fun i => (HK.out.trans_no (hF i)).cell (HD2.out 5 _ rfl) (fun h => h)
        have y6 := fun i => (HK.out.trans_no (hF i)).cell (HD2.out 6 _ rfl) (fun h => h)
        have y7 := fun i => (HK.out.trans_no (hF i)).cell (HD2.out 7 _ rfl) (fun h => h)
        have y8 := fun i => (HK.out.trans_no (hF i)).cell (HD2.out 8 _ rfl) (fun h => h)
        simp only [Nat.add_zero] at x0 y0
        clear hF
        repeat (quiet_step (fail))
        refine wpQuiet_nil ?_
        clear x0 x1 x2 x3 x4 x5 x6 x7 x8 y0 y1 y2 y3 y4 y5 y6 y7 y8 hne F ι
        have KD : Keeps No wr wr.drew := (Keeps.refl No wr).drew
        generalize wr.drew = wd at *
        have HKD := Lib.hid KD
        clear KD
        constructor
        · go_wp2
          refine EffPost.intro (HKD.out.alloc _) ?_
          rw [FT.wp]
          simp only [segPick, List.map_cons, List.map_nil, pick, List.filterMap_cons, List.filterMap_nil, List.getElem?_cons_succ, List.getElem?_cons_zero, List.drop_succ_cons, List.drop_zero]
          rw [wpSegs]
          intro ι F hne hF
          clear hF
          refine wpQuiet_nil ?_
          clear hne F ι
          go_wp2
          refine EffPost.intro ((HKD.out.alloc _).alloc _) ?_
          rw [wpSegs]
          intro ι F hne hF
          clear hF
          refine wpQuiet_nil ?_
          clear hne F ι
          go_wp2
          refine EffPost.intro ((HKD.out.alloc _).alloc _) ?_
          rw [wpSegs]
          intro ι F hne hF
          clear hF
          refine wpQuiet_nil ?_
          clear hne F ι
          go_wp2
          go_meet
          case rel =>
            obtain ⟨u1, u2, u3, _⟩ := two_blks wd (stC ⟨ty, sub, par, id, ab, way, nb, nl, sz⟩ (.slice pa1 par.length pc1) sz) (stC ⟨ty, sub, par, id, ab, way, nb, nl, sz⟩ (.slice pa2 par.length pc2) sz) 100 100
            exact ⟨_, _, rfl, rfl, u1, u2, HKD.out.trans_no u3⟩
        · go_wp2
          refine EffPost.intro (HKD.out.alloc _) ?_
          rw [FT.wp]
          simp only [segPick, List.map_cons, List.map_nil, pick, List.filterMap_cons, List.filterMap_nil, List.getElem?_cons_succ, List.getElem?_cons_zero, List.drop_succ_cons, List.drop_zero]
          rw [wpSegs]
          intro ι F hne hF
          clear hF
          refine wpQuiet_nil ?_
          clear hne F ι
          go_wp2
          refine EffPost.intro ((HKD.out.alloc _).alloc _) ?_
          rw [wpSegs]
          intro ι F hne hF
          clear hF
          refine wpQuiet_nil ?_
          clear hne F ι
          go_wp2
          refine EffPost.intro ((HKD.out.alloc _).alloc _) ?_
          rw [wpSegs]
          intro ι F hne hF
          clear hF
          refine wpQuiet_nil ?_
          clear hne F ι
          go_wp2
          go_meet
          case rel =>
            obtain ⟨u1, u2, u3, _⟩ := two_blks wd (stC ⟨ty, sub, par, id, ab, way, nb, nl, sz⟩ (.slice pa2 par.length pc2) sz) (stC ⟨ty, sub, par, id, ab, way, nb, nl, sz⟩ (.slice pa1 par.length pc1) sz) 100 100
            exact ⟨_, _, rfl, rfl, u2, u1, HKD.out.trans_no u3⟩
      case rest =>
        obtain ⟨k1, k2, rfl, rfl, hb1, hb2, KX⟩ := hcut
        have HB1 := Lib.hid hb1
        have HB2 := Lib.hid hb2
        have HKX := Lib.hid (HK.out.trans_no KX)
        have z0 := hb1.cell 0
        have z1 := hb1.cell 1
        have z2 := hb1.cell 2
        have z3 := hb1.cell 3
        have z4 := hb1.cell 4
        have z5 := hb1.cell 5
        have z6 := hb1.cell 6
        have z7 := hb1.cell 7
        have z8 := hb1.cell 8
        have v0 := hb2.cell 0
        have v1 := hb2.cell 1
        have v2 := hb2.cell 2
        have v3 := hb2.cell 3
        have v4 := hb2.cell 4
        have v5 := hb2.cell 5
        have v6 := hb2.cell 6
        have v7 := hb2.cell 7
        have v8 := hb2.cell 8
        simp only [stC, List.getElem?_cons_succ, List.getElem?_cons_zero] at z0 z1 z2 z3 z4 z5 z6 z7 z8 v0 v1 v2 v3 v4 v5 v6 v7 v8
        clear hb1 hb2 KX
        go_upto_region 9 with (fail)
        clear z0 z1 z2 z3 z4 z5 z6 z7 z8 v0 v1 v2 v3 v4 v5 v6 v7 v8
        go_wp2
        go_loopg [8] par.length (fun q s8 wy => ∃ l : Nat, s8 = .int .i64 l ∧ l + q = par.length ∧ Keeps No wc wy)
        case atStart => exact ⟨0, rfl, Nat.zero_add _, Keeps.refl _ _⟩
        case round =>
          obtain ⟨l, rfl, hln, KY⟩ := hrel
          have HLN := Lib.hid hln
          have HKY := Lib.hid KY
          have hw2 : IntKind.i64.wrap ((l : Int) + 1) = (l : Int) + 1 := IntWalk.i64_in _ (by omega)
          have z2 : wr.cell? ⟨k1, 2, none⟩ = some (.slice pa1 par.length pc1) := (HB1.out.keep_no KY).cell 2
          have v2 : wr.cell? ⟨k2, 2, none⟩ = some (.slice pa2 par.length pc2) := (HB2.out.keep_no KY).cell 2
          clear hln KY
          by_cases hl : l < par.length
          · have hll : (l : Int) < (par.length : Int) := by omega
            have hlt3 : decide ((l : Int) < (par.length : Int)) = true := decide_eq_true hll
            obtain ⟨x, hx⟩ : ∃ x, par[l]? = some x := ⟨_, List.getElem?_eq_getElem hl⟩
            obtain ⟨a1, ca1, ha1, hd1⟩ := row_pos HS1.out (by omega)
            obtain ⟨a2, ca2, ha2, hd2⟩ := row_pos HS2.out (by omega)
            have hpc1 : par.length ≤ pc1 := by
              rcases HS1.out.2 with ⟨h1, _⟩ | ⟨_, _, _, h1, _, _, h2, _⟩
              · rw [h1] at ha1; cases ha1
              · simp only [Value.slice.injEq, true_and] at h1
                omega
            have hpc2 : par.length ≤ pc2 := by
              rcases HS2.out.2 with ⟨h1, _⟩ | ⟨_, _, _, h1, _, _, h2, _⟩
              · rw [h1] at ha2; cases ha2
              · simp only [Value.slice.injEq, true_and] at h1
                omega
            simp only [Value.slice.injEq, true_and] at ha1 ha2
            obtain ⟨rfl, rfl⟩ := ha1
            obtain ⟨rfl, rfl⟩ := ha2
            have KZ := HKX.out.trans_no HKY.out
            obtain ⟨t1, t2⟩ := parCs_at par l x hx
            have f1 := KZ.cell (hd1 _ _ t1) (fun h => h)
            have f2 := KZ.cell (hd1 _ _ t2) (fun h => h)
            have f3 := KZ.cell (hd2 _ _ t1) (fun h => h)
            have f4 := KZ.cell (hd2 _ _ t2) (fun h => h)
            clear hx t1 t2 hd1 hd2 KZ
            go_upto_region 12 with (fail)
            go_quiet (fail)
            go_wp2
            go_roundg (gk - 1)
            case measure => have := HLN.out; omega
            case rel => exact ⟨l + 1, by simp, by have := HLN.out; omega, HKY.out.drewN _⟩
          · have hll : ¬ ((l : Int) < (par.length : Int)) := by omega
            have hlt3 : decide ((l : Int) < (par.length : Int)) = false := decide_eq_false hll
            go_wp2
            go_roundg (gq - 1)
            case measure => have := HGQ.out; have := HJN.out; omega
            case rel => exact ⟨j + 1, by simp, by have := HGQ.out; have := HJN.out; omega, HKX.out.trans_no HKY.out⟩
    · have hjj : ¬ ((j : Int) < (rs.length : Int)) := by omega
      have hlt : decide ((j : Int) < (rs.length : Int)) = false := decide_eq_false hjj
      go_wp2
      go_ret
      exact ⟨rfl, HK.out⟩
end Go.Proofs.YtjbbapodcngnaaaGreatDoor.G
namespace Go.Proofs.YtjbbapodcngnaaaGreatDoor.G
open Go.RowKit Hdr

mutual
theorem flat_params : ∀ x : Sh, ∀ r ∈ flat x, r.params.length ≤ 1
  | .mk t s b i a y n l ps, r, hr => by
    rw [flat_eq] at hr
    rcases List.mem_cons.1 hr with rfl | hr
    · show (if b = [] then [] else [(bndK, b)] : List (List UInt8 × List UInt8)).length ≤ 1
      split <;> simp
    · exact flats_params ps r hr
theorem flats_params : ∀ l : List Sh, ∀ r ∈ flats l, r.params.length ≤ 1
  | [], r, hr => by rw [flats_nil] at hr; cases hr
  | x :: l, r, hr => by
    rw [flats_cons] at hr
    rcases List.mem_append.1 hr with hr | hr
    · exact flat_params x r hr
    · exact flats_params l r hr
end

set_option maxRecDepth 100000 in
set_option maxHeartbeats 4000000 in
theorem fnStructured_true (m : Ml) (cs : List Value) (ea : Addr) (w : World) {N : Nat} (FE : FEnv N ea w) (h : MlC w m cs) :
    Calls Tryz.prog 5 #[.agg cs.toArray] w fun e w' => e = .returned (.bool true) ∧ Keeps No w w' := by
  obtain ⟨ha, hc, ka, kc, css, rfl, _⟩ := h.form
  have HFE := Lib.hid FE
  have HF6 := Lib.hid (fun (W : World) (K : Keeps No w W) => fits6_any m _ W (MlC.keep K _ _ h))
  have HMR := Lib.hid (fun (W : World) (K : Keeps No w W) => mailRight_any m ha hc ka kc W (MlC.keep K _ _ h))
  have HSH := Lib.hid (fun (ok : MlOk m) (hm : msize m ≤ 16) (W : World) (K : Keeps No w W) => show Calls Tryz.prog 16 #[mlVal ha m.head.length hc m.kind m.type m.sub m.id m.about m.way m.text ka m.kids.length kc, .string ⟨#[]⟩] W (ShPost (shapeOf m []) (sureOf m []) W) from
    shape_all _ m (Nat.le_refl _) ok [] (fun c hc => by cases hc) (by simp; omega) ha hc ka kc w h W K)
  have HTX := Lib.hid (fun (ok : MlOk m) (hm : msize m ≤ 16) (W : World) (K : Keeps No w W) => show Calls Tryz.prog 18 #[mlVal ha m.head.length hc m.kind m.type m.sub m.id m.about m.way m.text ka m.kids.length kc, .string ⟨#[]⟩] W (StrTo (mtext m []) W) from
    (text_all _ m (Nat.le_refl _) ok [] (fun c hc => by cases hc) (by simp; omega) ha hc ka kc w h W K).1)
  have HSM := Lib.hid (fun (ok : MlOk m) (hm : msize m ≤ 16) => shape_small _ m (Nat.le_refl _) ok [] (fun c hc => by cases hc) (by simp; omega))
  have HSZ := Lib.hid (shape_size _ m (Nat.le_refl _) [])
  have HST := Lib.hid (fun (ok : MlOk m) (hm : msize m ≤ 16) (hsu : sureOf m [] = true) (W : World) (K : Keeps No w W) => structured_any m (mtext m []) (flat (shapeOf m [])) W ea (FE.keep_no K) rfl ok (by omega) hsu rfl)
  obtain ⟨n1, hn1⟩ : ∃ n1, n1 = m.head.length := ⟨_, rfl⟩
  obtain ⟨n2, hn2⟩ : ∃ n2, n2 = m.kids.length := ⟨_, rfl⟩
  unfold mlCs at HF6 ⊢
  unfold mlVal at HMR HSH HTX
  rw [← hn1, ← hn2] at HF6 HMR HSH HTX ⊢
  clear FE h hn1 hn2
  generalize m.kind = kind at *
  generalize m.type = ty at *
  generalize m.sub = sub at *
  generalize m.id = id at *
  generalize m.about = ab at *
  generalize m.way = way at *
  generalize m.text = text at *
  generalize shapeOf m [] = sh at *
  generalize sureOf m [] = su at *
  generalize mtext m [] = T at *
  have hB : Blk (w.alloc (.cells #[.slice ha n1 hc, .int .i64 kind, str ty, str sub, str id, str ab, str way, str text, .slice ka n2 kc] 42)) w.heap.size [.slice ha n1 hc, .int .i64 kind, str ty, str sub, str id, str ab, str way, str text, .slice ka n2 kc] 42 := Blk.new w _ _
  have KA : Keeps No w (w.alloc (.cells #[.slice ha n1 hc, .int .i64 kind, str ty, str sub, str id, str ab, str way, str text, .slice ka n2 kc] 42)) := (Keeps.refl No w).alloc _
  have HB := Lib.hid hB
  have HKA := Lib.hid KA
  clear hB KA
  show Calls Tryz.prog 5 #[.agg #[.slice ha n1 hc, .int .i64 kind, str ty, str sub, str id, str ab, str way, str text, .slice ka n2 kc]] w _
  go_enter Tryz.func5, Tryz.ntmps5
  go_wp2_with (fail)
  refine (HF6.out _ HKA.out).mono ?_
  rintro e w2 ⟨t, rfl, K2⟩
  have HB2 := Lib.hid (HB.out.keep_no K2)
  have HK2 := Lib.hid (HKA.out.trans_no K2)
  clear K2
  cases t with
  | false =>
    go_wp2
    go_ret
    exact ⟨rfl, HK2.out⟩
  | true =>
  have c0 := HB2.out.cell 0
  have c1 := HB2.out.cell 1
  have c2 := HB2.out.cell 2
  have c3 := HB2.out.cell 3
  have c4 := HB2.out.cell 4
  have c5 := HB2.out.cell 5
  have c6 := HB2.out.cell 6
  have c7 := HB2.out.cell 7
  have c8 := HB2.out.cell 8
  simp only [List.getElem?_cons_succ, List.getElem?_cons_zero] at c0 c1 c2 c3 c4 c5 c6 c7 c8
  go_wp2_with (fail)
  refine (HMR.out _ HK2.out).mono ?_
  rintro e w3 ⟨t, rfl, hmr, K3⟩
  have HB3 := Lib.hid (HB2.out.keep_no K3)
  have HK3 := Lib.hid (HK2.out.trans_no K3)
  have HMO := Lib.hid hmr
  clear K3 hmr c0 c1 c2 c3 c4 c5 c6 c7 c8
  cases t with
  | false =>
    go_wp2
    go_ret
    exact ⟨rfl, HK3.out⟩
  | true =>
  obtain ⟨hok, hm16⟩ := HMO.out (by trivial)
  have HOK := Lib.hid hok
  have HM16 := Lib.hid hm16
  clear hok hm16
  have c0 := HB3.out.cell 0
  have c1 := HB3.out.cell 1
  have c2 := HB3.out.cell 2
  have c3 := HB3.out.cell 3
  have c4 := HB3.out.cell 4
  have c5 := HB3.out.cell 5
  have c6 := HB3.out.cell 6
  have c7 := HB3.out.cell 7
  have c8 := HB3.out.cell 8
  simp only [List.getElem?_cons_succ, List.getElem?_cons_zero] at c0 c1 c2 c3 c4 c5 c6 c7 c8
  go_wp2_with (fail)
  refine (HSH.out HOK.out HM16.out _ HK3.out).mono ?_
  rintro e w4 ⟨t, s, b, i, a, y, n, l, ps, pa, pm, pc, qs, rfl, rfl, hrow, hown, hqs, K4⟩
  have HSC := Lib.hid (show ShC w4 (fun _ => True) (.mk t s b i a y n l ps) [str t, str s, str b, str i, str a, str y, .int .i64 n, .int .i64 l, .slice pa pm pc] from by
    rw [ShC_eq]
    exact ⟨_, qs, rfl, hrow, (fun _ _ => trivial), ShsC.mono (fun _ _ _ => trivial) _ _ hqs⟩)
  have HB4 := Lib.hid (HB3.out.keep_no K4)
  have HK4 := Lib.hid (HK3.out.trans_no K4)
  clear K4 hrow hown hqs c0 c1 c2 c3 c4 c5 c6 c7 c8
  have hx := Blk.new w4 [str t, str s, str b, str i, str a, str y, .int .i64 n, .int .i64 l, .slice pa pm pc] 46
  have kx : Keeps No w4 (w4.alloc (.cells #[str t, str s, str b, str i, str a, str y, .int .i64 n, .int .i64 l, .slice pa pm pc] 46)) := (Keeps.refl No w4).alloc _
  go_upto_region 6 with (fail)
  have hb5 := HB4.out.keep_no kx
  generalize (w4.alloc (.cells #[str t, str s, str b, str i, str a, str y, .int .i64 n, .int .i64 l, .slice pa pm pc] 46)) = w5 at *
  have HX := Lib.hid (show Blk w5 w4.heap.size [str t, str s, str b, str i, str a, str y, .int .i64 n, .int .i64 l, .slice pa pm pc] 46 from hx)
  have HKX := Lib.hid kx
  have HB5 := Lib.hid hb5
  clear hx kx hb5
  cases su with
  | false =>
    go_wp2
    go_ret
    exact ⟨rfl, HK4.out.trans_no HKX.out⟩
  | true =>
  have c0 := HB5.out.cell 0
  have c1 := HB5.out.cell 1
  have c2 := HB5.out.cell 2
  have c3 := HB5.out.cell 3
  have c4 := HB5.out.cell 4
  have c5 := HB5.out.cell 5
  have c6 := HB5.out.cell 6
  have c7 := HB5.out.cell 7
  have c8 := HB5.out.cell 8
  simp only [List.getElem?_cons_succ, List.getElem?_cons_zero] at c0 c1 c2 c3 c4 c5 c6 c7 c8
  go_wp2_with (fail)
  refine (HTX.out HOK.out HM16.out _ (HK4.out.trans_no HKX.out)).mono ?_
  rintro e w6 ⟨rfl, K6⟩
  have HK6 := Lib.hid K6
  clear K6 c0 c1 c2 c3 c4 c5 c6 c7 c8
  go_wp2_with (fail)
  refine (HST.out HOK.out HM16.out (by trivial) _ ((HK4.out.trans_no HKX.out).trans_no HK6.out)).mono ?_
  rintro e w7 ⟨v, rfl, hsts, K7⟩
  obtain ⟨v1, v2, hr1, hr2⟩ := hsts
  obtain ⟨fa, fc, rfl⟩ := rowVn hr1
  have HS7 := Lib.hid (show StsAt w7 w6.heap.size (.slice fa (flat (.mk t s b i a y n l ps)).length fc) (flat (.mk t s b i a y n l ps)) from ⟨v1, v2, hr1, hr2⟩)
  have HK7 := Lib.hid (HK6.out.trans_no K7)
  have HX7 := HX.out.keep_no (HK6.out.trans_no K7)
  have HSZ' := HSZ.out
  have HSC7 := Lib.hid (ShC.keep (HKX.out.trans_no (HK6.out.trans_no K7)) (fun _ _ h => h) _ _ HSC.out)
  have HFL := Lib.hid (flat_len (.mk t s b i a y n l ps))
  have H20 := Lib.hid (fun (W : World) (K : Keeps No w7 W) => structs7_all _ t s b i a y n l ps (Nat.le_refl _) (by rw [HSZ.out]; have := HM16.out; omega) (HSM.out HOK.out HM16.out) pa pm pc w7 _ HSC7.out W K)
  have HPM := Lib.hid (flat_params (.mk t s b i a y n l ps))
  obtain ⟨rs, hrs⟩ : ∃ rs, rs = flat (.mk t s b i a y n l ps) := ⟨_, rfl⟩
  rw [← hrs] at HS7 HFL H20 HPM ⊢
  have hrl : rs.length ≤ 1000 := by rw [HFL.out, HSZ.out]; have := HM16.out; omega
  have x0 := HX7.cell 0
  have x1 := HX7.cell 1
  have x2 := HX7.cell 2
  have x3 := HX7.cell 3
  have x4 := HX7.cell 4
  have x5 := HX7.cell 5
  have x6 := HX7.cell 6
  have x7 := HX7.cell 7
  have x8 := HX7.cell 8
  simp only [List.getElem?_cons_succ, List.getElem?_cons_zero] at x0 x1 x2 x3 x4 x5 x6 x7 x8
  clear hr1 hr2 v2 HX7 K7 HSZ' hrs
  go_wp2_with (fail)
  refine (H20.out w7 (Keeps.refl No w7)).mono ?_
  rintro e w8 ⟨v', rfl, hsts2, K8⟩
  obtain ⟨v1', v2', hr1', hr2'⟩ := hsts2
  obtain ⟨fa', fc', rfl⟩ := rowVn hr1'
  have HK8 := Lib.hid K8
  have HSAME := Lib.hid (same7_any rs fa fa' fc fc' _ _ w8 (StsAt.keep HS7.out K8 (fun _ h => h.elim)) ⟨v1', v2', hr1', hr2'⟩ hrl (fun r hr => by have := HPM.out r hr; omega))
  clear hr1' hr2' v2' K8 x0 x1 x2 x3 x4 x5 x6 x7 x8
  go_wp2_with (fail)
  refine HSAME.out.mono ?_
  rintro e w9 ⟨rfl, K9⟩
  have HK9 := Lib.hid (((((HK4.out.trans_no HKX.out).trans_no HK7.out).trans_no HK8.out)).trans_no K9)
  clear K9
  go_wp2
  go_ret
  exact ⟨rfl, HK9.out⟩
end Go.Proofs.YtjbbapodcngnaaaGreatDoor.G
