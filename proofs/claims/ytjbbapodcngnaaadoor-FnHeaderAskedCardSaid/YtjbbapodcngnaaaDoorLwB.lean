/- The law FnHeaderAsked answers true. -/
import Derived.Test.YtjbbapodcngnaaaDoorAsB
import Derived.Test.YtjbbapodcngnaaaDoorAsC
namespace Go.Proofs.YtjbbapodcngnaaaDoor
open Go.RowKit Hdr

/-- What the first loop has gathered. -/
structure Gat (w1 wr : World) (lo : Nat) (s : List PF) (v : Value) : Prop where
  R : wr.ownsRow lo 9 1 v s.length (s.map fun p => str p.v)
  K : Keeps No w1 wr

theorem top_snoc (s : List PF) (p : PF) (g : PF → List UInt8) : top (s ++ [p]) g = if s.length = 0 then g p else top s g := by
  cases s with
  | nil => rfl
  | cons _ _ => rfl

theorem selp_take (ps : List PF) (ck : List UInt8) (j : Nat) (hj : j < ps.length) : selp (ps.take (j + 1)) ck = if ps[j].k = ck then selp (ps.take j) ck ++ [ps[j]] else selp (ps.take j) ck := by
  unfold selp
  rw [List.take_succ_eq_append_getElem hj, List.filter_append]
  split
  · rename_i h; simp [h]
  · rename_i h; simp [h]

theorem row_at {w : World} {base : Nat} {a : Option Addr} {n cap m : Nat} {xs : List Value} (h : w.ownsRow base 9 1 (.slice a n cap) m xs) {i : Nat} {u : Value} (hu : xs[i]? = some u) : ∃ g, a = some ⟨g, 0, none⟩ ∧ w.cell? ⟨g, i, none⟩ = some u := by
  obtain ⟨h1, h2⟩ := h
  have hi : i < xs.length := (List.getElem?_eq_some_iff.1 hu).1
  rcases h2 with ⟨_, h2⟩ | ⟨g, cap', cur, h2, hb, hg, hc, hm, hs, ht⟩
  · omega
  · injection h2 with h2 _ _
    refine ⟨g, h2, ?_⟩
    rw [← ht] at hu hi
    rw [List.length_take] at hi
    rw [List.getElem?_take, if_pos (by omega)] at hu
    simp only [World.cell?, hg]
    simpa using hu

set_option maxRecDepth 100000 in
set_option maxHeartbeats 4000000 in
theorem fnHeaderAsked_true (l key : List UInt8) (ea : Addr) (w : World) (hb1 : l.length ≤ maxLen) (hb2 : key.length ≤ maxLen) {N : Nat} (L : Laid N ea w) (hN : N ≤ w.heap.size) :
    Calls Tryd.prog 3 #[str l, str key] w (TruePost w) := by
  have hls := str_len l
  have hlk := str_len key
  unfold maxLen at hb1 hb2
  by_cases h1 : 2147483647 < l.length
  · have e1 : decide (2147483647 < l.length) = true := decide_eq_true h1
    have e2 : decide ((2147483647 : Int) < (l.length : Int)) = true := decide_eq_true (by omega)
    clear L
    go_enter Tryd.func3, Tryd.ntmps3
    go_wp2
    go_ret
    exact ⟨rfl, Keeps.refl _ _⟩
  have e1 : decide ((2147483647 : Int) < (l.length : Int)) = false := decide_eq_false (by omega)
  by_cases h3 : 2147483647 < key.length
  · have e3 : decide ((2147483647 : Int) < (key.length : Int)) = true := decide_eq_true (by omega)
    clear L
    go_enter Tryd.func3, Tryd.ntmps3
    go_wp2
    go_ret
    exact ⟨rfl, Keeps.refl _ _⟩
  have e3 : decide ((2147483647 : Int) < (key.length : Int)) = false := decide_eq_false (by omega)
  by_cases h2 : 2000 < l.length
  · have e2 : decide ((2000 : Int) < (l.length : Int)) = true := decide_eq_true (by omega)
    clear L
    go_enter Tryd.func3, Tryd.ntmps3
    go_wp2
    go_ret
    exact ⟨rfl, Keeps.refl _ _⟩
  have e2 : decide ((2000 : Int) < (l.length : Int)) = false := decide_eq_false (by omega)
  have hl2 : l.length ≤ 2000 := by omega
  have hk2 : key.length ≤ 2147483647 := by omega
  clear h1 h2 h3
  have HT9 := Lib.hid (token9_any key)
  have ht40 : tok9 key = true → key.length ≤ 40 := fun h => by
    unfold tok9 at h
    simp only [Bool.and_eq_true, decide_eq_true_eq] at h
    exact h.2
  generalize tok9 key = t9 at *
  have HT40 := Lib.hid ht40
  have hlaw := h9_rhd l
  have HS := specHeaderOf_any l w (by omega)
  have HL := Lib.hid L
  clear L ht40
  have hshort := short_of_len (c := l) (by omega)
  have hIm : ∀ w1, Keeps No w w1 → key.length ≤ 40 → Calls Tryd.prog 8 #[str l, str key] w1 (HaPost (rhd l) (canon key) w1) := fun w1 k hk =>
    headerAsked_any l key ea w1 hshort (by omega) (by omega) (HL.out.keep_no k) (Nat.le_trans hN k.size) (fun ps c h => by have := rhd_len h; omega)
  have HIM := Lib.hid hIm
  generalize h9 l = r at *
  generalize rhd l = p at *
  obtain ⟨fs, taken, ok, sure⟩ := r
  have HSS := Lib.hid HS
  have HLAW := Lib.hid hlaw
  have HCN := Lib.hid (canonical9_any key)
  generalize hck : canon key = ck at *
  have HCK := Lib.hid hck
  clear hck
  clear HS hlaw hIm hshort
  go_enter Tryd.func3, Tryd.ntmps3
  go_wp2_with (fail)
  refine (HT9.out _ (by omega)).mono ?_
  rintro e w ⟨rfl, rfl⟩
  cases t9 with
  | false =>
    go_wp2
    go_ret
    exact ⟨rfl, Keeps.refl _ _⟩
  | true =>
    have hk40 : key.length ≤ 40 := HT40.out (by trivial)
    go_wp2_with (fail)
    refine HSS.out.mono ?_
    rintro e w1 ⟨v, rfl, hrow, K, hn⟩
    simp only at hrow hn
    have HR3 := Lib.hid (Row3.of_row hrow)
    obtain ⟨va, vc, rfl⟩ := ownsRow_shape hrow
    clear hrow
    cases sure with
    | false =>
      go_wp2
      go_ret
      exact ⟨rfl, K⟩
    | true =>
      cases ok with
      | false =>
        go_wp2
        go_ret
        exact ⟨rfl, K⟩
      | true =>
        have hlw := HLAW.out (by trivial)
        obtain ⟨c, rfl⟩ : ∃ c, p = some (fs, c) := by
          cases p with
          | none =>
            have := hlw.1 rfl
            cases this
          | some pc =>
            obtain ⟨ps, c⟩ := pc
            have := (hlw.2 ps c rfl).2.1
            subst this
            exact ⟨c, rfl⟩
        clear hlw
        generalize hnf : fs.length = n at *
        have HNF := Lib.hid hnf
        clear hnf
        go_upto_block 0 with (fail)
        go_cut [9, 10] (fun s9 s10 wx => Gat w1 wx w1.heap.size (selp fs ck) s9 ∧ s10 = str (top (selp fs ck) (·.raw)))
        case first =>
          go_wp2
          go_loopg [9, 10, 50] n (fun q s9 s10 s50 wr => ∃ j : Nat, s50 = .int .i64 (j : Int) ∧ j + q = n ∧ Gat w1 wr w1.heap.size (selp (fs.take j) ck) s9 ∧ s10 = str (top (selp (fs.take j) ck) (·.raw)))
          case atStart => exact ⟨0, rfl, by omega, ⟨World.ownsRow_nil _ _ _ _, Keeps.refl _ _⟩, rfl⟩
          case round =>
            obtain ⟨j, rfl, hjn, hg, rfl⟩ := hrel
            have HJN := Lib.hid hjn
            have hjl : j ≤ n := by omega
            obtain ⟨oa, oc, rfl⟩ := ownsRow_shape hg.R
            have HG := Lib.hid hg
            clear hjn hg
            by_cases hj : j < n
            · have hjj : (j : Int) < (n : Int) := by omega
              have hjf : j < fs.length := by have := HNF.out; omega
              have hr3 := HR3.out.keep HG.out.K (fun _ _ h => h)
              obtain ⟨g, rfl, -, a1, a2, a3⟩ := hr3.at hjf
              have hst := selp_take fs ck j hjf
              generalize fs[j] = f at *
              have HSTK := Lib.hid hst
              have HRW := Lib.hid hr3
              clear hst hr3
              generalize hss : selp (fs.take j) ck = s at *
              have HSS2 := Lib.hid hss
              clear hss
              go_upto_region 13 with (fail)
              go_cut [60] (fun s60 wx => s60 = .bool (f.k == ck) ∧ Keeps No wr wx)
              case first =>
                refine region_segs [([0, 1, 2, 3, 4, 5], 6)] [] 7 (fun W => W.cell? ⟨g, j * 3, none⟩ = some (str f.k)) (by kernel_rfl) (by kernel_rfl) ?_ ?_
                · exact a1
                simp only [segPick, List.map_cons, List.map_nil, pick, List.filterMap_cons, List.filterMap_nil, List.getElem?_cons_succ, List.getElem?_cons_zero, List.drop_succ_cons, List.drop_zero]
                rw [wpSegs]
                intro ι F hne hF
                have d1 := fun i => hF i
                clear hF
                repeat (quiet_step (fail))
                refine wpQuiet_nil ?_
                clear d1 hne F ι
                go_wp2_with (fail)
                refine (HCN.out _ (by omega)).mono ?_
                rintro e w3 ⟨rfl, K3⟩
                rw [HCK.out]
                have KR : Keeps No wr w3 := ((Keeps.refl No wr).drew).trans' K3
                have hc3 : w3.cell? ⟨g, j * 3, none⟩ = some (str f.k) := KR.cell a1 (fun h => h)
                go_wp2
                refine EffPost.intro hc3 ?_
                rw [wpSegs]
                intro ι F hne hF
                clear hF
                repeat (quiet_step (fail))
                refine wpQuiet_nil ?_
                clear hne F ι
                go_wp2
                go_meet
                exact ⟨rfl, KR⟩
              case rest =>
                obtain ⟨rfl, KR⟩ := hcut
                have b1 : wc.cell? ⟨g, j * 3 + 1, none⟩ = some (str f.v) := KR.cell a2 (fun h => h)
                have b2 : wc.cell? ⟨g, j * 3 + 2, none⟩ = some (str f.raw) := KR.cell a3 (fun h => h)
                have hrow := ownsRow_keep HG.out.R KR (fun _ _ h => h)
                have KW := HG.out.K.trans' KR
                have HROW := Lib.hid hrow
                clear a1 a2 a3 hrow
                generalize hq : (f.k == ck) = q
                have HQ := Lib.hid hq
                clear hq
                cases q with
                | false =>
                  have hne : f.k ≠ ck := by
                    have := HQ.out
                    simpa using this
                  have hs2 : selp (fs.take (j + 1)) ck = s := by rw [HSTK.out, if_neg hne]
                  have HS2 := Lib.hid hs2
                  clear hne hs2
                  go_wp2
                  go_roundg (gk - 1)
                  case measure => have := HJN.out; omega
                  case rel => exact ⟨j + 1, by simp, by have := HJN.out; omega, by rw [HS2.out]; exact ⟨HROW.out, KW⟩, by rw [HS2.out]⟩
                | true =>
                  have heq : f.k = ck := by
                    have := HQ.out
                    simpa using this
                  have hs2 : selp (fs.take (j + 1)) ck = s ++ [f] := by rw [HSTK.out, if_pos heq]
                  have HS2 := Lib.hid hs2
                  have htop := top_snoc s f (·.raw)
                  have hsl : s.length ≤ j := by
                    rw [← HSS2.out]
                    unfold selp
                    exact Nat.le_trans (List.length_filter_le _ _) (by rw [List.length_take]; exact Nat.min_le_left _ _)
                  have HTOP := Lib.hid htop
                  clear heq hs2 htop
                  go_upto_if 63 with (fail)
                  go_cut [10] (fun s10 wx => s10 = str (top (s ++ [f]) (·.raw)) ∧ wc = wx)
                  case first =>
                    by_cases hs0 : s.length = 0
                    · have e5 : ((s.length : Int) == 0) = true := by rw [hs0]; rfl
                      have HS0 := Lib.hid hs0
                      clear hs0
                      go_wp2
                      go_meet
                      exact ⟨by rw [HTOP.out, if_pos HS0.out], rfl⟩
                    · have e5 : ((s.length : Int) == 0) = false := beq_eq_false_iff_ne.2 (by omega)
                      have HS0 := Lib.hid hs0
                      clear hs0
                      go_wp2
                      go_meet
                      exact ⟨by rw [HTOP.out, if_neg HS0.out], rfl⟩
                  case rest =>
                    obtain ⟨rfl, rfl⟩ := hcut
                    obtain ⟨i0, hi, hz0, hz1, hz2⟩ := info_parts info_str
                    have hc1 : ∀ i u, [str f.v][i]? = some u → (wc.alloc (.cells #[str f.v] 9)).cell? ((⟨wc.heap.size, 0, none⟩ : Addr).add i) = some u := fun i u hi => by
                      have hb := Blk.new wc [str f.v] 9
                      rw [addr_at]
                      exact (hb.cell i).trans hi
                    have hc2 : ∀ u ∈ [str f.v], u.oneCell' = true := fun u hu => by
                      simp at hu
                      subst hu
                      rfl
                    have hkw := KW.size
                    have HC1 := Lib.hid hc1
                    have HC2 := Lib.hid hc2
                    clear hc1 hc2
                    go_wp2_with (at_builtin; refine wpList_append_own _ rfl (.tmp 69) (.tmp 75) 26 rfl w1.heap.size 9 i0 (.string ⟨#[]⟩) 1 16 Tryd.underlying26 hi hz0 hz1 hz2 rfl (by decide) _ s.length (s.map fun p => str p.v) rfl (HROW.out.alloc _) ⟨wc.heap.size, 0, none⟩ 1 1 [str f.v] rfl rfl HC1.out HC2.out (by unfold maxLen; omega) (by omega) (by simp; omega) ?_; intro v' W hrow' hgr _; have HRW2 := Lib.hid hrow'; have KW2 := (KW.alloc _).grown hgr (fun k hk => .inr (HROW.out.lt k hk).1); obtain ⟨va2, vc2, rfl⟩ := ownsRow_shape hrow'; clear hrow' hgr)
                    go_roundg (gk - 1)
                    case measure => have := HJN.out; omega
                    case rel =>
                      refine ⟨j + 1, by simp, by have := HJN.out; omega, ⟨?_, KW2⟩, by rw [HS2.out]⟩
                      rw [HS2.out]
                      have h2 := HRW2.out
                      simpa using h2
            · have hjn : j = n := by omega
              have e9 : decide ((j : Int) < (n : Int)) = false := decide_eq_false (by omega)
              have hfull : fs.take j = fs := List.take_of_length_le (by have := HNF.out; omega)
              have HFL := Lib.hid hfull
              clear hjn hfull
              go_wp2
              go_meet
              have hg := HG.out
              rw [HFL.out] at hg ⊢
              exact ⟨hg, rfl⟩
        case rest =>
          obtain ⟨hg, rfl⟩ := hcut
          obtain ⟨oa, oc, rfl⟩ := ownsRow_shape hg.R
          have HG := Lib.hid hg
          clear hg
          have hsn : (selp fs ck).length ≤ 100000 := by
            unfold selp
            exact Nat.le_trans (List.length_filter_le _ _) (by have := HNF.out; omega)
          go_wp2_with (fail)
          refine (HIM.out _ (K.trans' HG.out.K) hk40).mono ?_
          rintro e w3 ⟨K3, v, rfl, hrow⟩
          have hrow1 := ownsRow_keep HG.out.R K3 (fun _ _ h => h)
          have KF := (K.trans' HG.out.K).trans' K3
          obtain ⟨ba, bc, rfl⟩ := ownsRow_shape hrow
          have HRA := Lib.hid hrow1
          have HRB := Lib.hid hrow
          clear hrow hrow1
          generalize selp fs ck = s at *
          go_upto_region 19 with (fail)
          go_cut [132] (fun s132 wx => s132 = .bool false ∧ w3 = wx)
          case first =>
            cases s with
            | nil =>
              go_wp2
              go_meet
              exact ⟨rfl, rfl⟩
            | cons p r =>
              obtain ⟨g1, rfl, c1⟩ := row_at HRA.out (i := 0) (u := str p.v) rfl
              have hrl : r.length ≤ 100000 := by simp at hsn; omega
              have e5 : decide (0 < r.length + 1) = true := decide_eq_true (by omega)
              have e6 : decide ((0 : Int) < (r.length : Int) + 1) = true := decide_eq_true (by omega)
              go_wp2
              go_meet
              exact ⟨rfl, rfl⟩
          case rest =>
            obtain ⟨rfl, rfl⟩ := hcut
            generalize hm : s.length = m at *
            have HM := Lib.hid hm
            clear hm
            go_wp2
            go_loopg [135] m (fun q s135 wr => ∃ j : Nat, s135 = .int .i64 (j : Int) ∧ j + q = m ∧ ∃ d, wr = w3.drewN d)
            case atStart => exact ⟨0, rfl, by omega, 0, rfl⟩
            case round =>
              obtain ⟨j, rfl, hjn, d, rfl⟩ := hrel
              have HJN := Lib.hid hjn
              have hjl : j ≤ m := by omega
              clear hjn
              by_cases hj : j < m
              · have hjj : (j : Int) < (m : Int) := by omega
                have hjs : j < s.length := by have := HM.out; omega
                obtain ⟨g1, rfl, c1⟩ := row_at HRA.out (i := j) (u := str s[j].v) (by rw [List.getElem?_map, List.getElem?_eq_getElem hjs]; rfl)
                obtain ⟨g2, rfl, c2⟩ := row_at HRB.out (i := j) (u := str s[j].v) (by rw [List.getElem?_map, List.getElem?_eq_getElem hjs]; rfl)
                generalize s[j].v = x at *
                go_upto_region 24 with (fail)
                go_quiet (fail)
                go_wp2
                go_roundg (gk - 1)
                case measure => have := HJN.out; omega
                case rel => exact ⟨j + 1, by simp, by have := HJN.out; omega, d + nq, rfl⟩
              · have e9 : decide ((j : Int) < (m : Int)) = false := decide_eq_false (by omega)
                go_wp2
                go_ret
                exact ⟨rfl, KF.drewN d⟩
end Go.Proofs.YtjbbapodcngnaaaDoor
