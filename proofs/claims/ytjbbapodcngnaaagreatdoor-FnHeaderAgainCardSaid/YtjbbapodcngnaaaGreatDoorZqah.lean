/- spec: HeaderSteps. -/
import Derived.Test.YtjbbapodcngnaaaGreatDoorZqag
namespace Go.Proofs.YtjbbapodcngnaaaGreatDoor
open Go.RowKit Hdr

/-- What HeaderSteps leaves. -/
def StepsPost (ss : List St) (l0 : List Ab) (w : World) (e : Ending) (w' : World) : Prop :=
  ∃ t : Bool, e = .returned (.bool t) ∧ (t = true → ∃ l', Chain ss l0 l') ∧ Keeps No w w'

/-- What is asked of a raw field. -/
def rawAsk (r : H9) (key val : List UInt8) (n : Int) : Prop := r.ok = true ∧ r.sure = true ∧ r.taken = val.length ∧ (∃ p, r.fs = [p] ∧ p.raw = val) ∧ val.length ≤ 300 ∧ key = [] ∧ n = 0

theorem filter_two (l : List Ab) (k : List UInt8) : (l.filter (fun x => decide (x.k ≠ k))).length + (l.filter (fun x => decide (x.k = k))).length = l.length := by
  induction l with
  | nil => rfl
  | cons x l ih =>
    by_cases h : x.k = k
    · rw [List.filter_cons_of_neg (by simp [h]), List.filter_cons_of_pos (by simp [h])]
      simp only [List.length_cons]
      omega
    · rw [List.filter_cons_of_pos (by simp [h]), List.filter_cons_of_neg (by simp [h])]
      simp only [List.length_cons]
      omega
/-- What the guards ask is what a step needs. -/
theorem steps_ask (la : List Ab) (op : Int) (key val : List UInt8) (n : Int) (h1 : 1 ≤ op ∧ op ≤ 6 ∧ val.length ≤ 1200 ∧ (13 : UInt8) ∉ val ∧ (10 : UInt8) ∉ val) (h2 : (op = 5 → 0 ≤ n ∧ n < (la.length : Int)) ∧ (op ≠ 5 → tok9 key = true))
    (h3 : op = 6 → 0 ≤ n ∧ n < ((la.filter (fun x => decide (x.k = canon key))).length : Int)) (h4 : op ≠ 4) : ∃ l2, stepOk ⟨op, key, val, n⟩ la l2 ∧ stepGood ⟨op, key, val, n⟩ ∧ l2.length ≤ la.length + 1 := by
  obtain ⟨a1, a2, a3, a4, a5⟩ := h1
  obtain ⟨b1, b2⟩ := h2
  have ht : op ≠ 5 → key.all tok = true ∧ key ≠ [] ∧ key.length ≤ 40 := fun h => by
    have := b2 h
    unfold tok9 at this
    simp only [Bool.and_eq_true, Bool.not_eq_true', decide_eq_true_eq] at this
    refine ⟨this.1.1, fun h => ?_, this.2⟩
    rw [h] at this
    simp at this
  have hg : stepGood ⟨op, key, val, n⟩ := ⟨a3, fun h => (ht h).2.2, fun h => by
    have h5 : op ≠ 5 := by rcases h with h | h <;> (simp only at h; omega)
    exact ⟨(ht h5).1, (ht h5).2.1, a4, a5⟩⟩
  have hc : op = 1 ∨ op = 2 ∨ op = 3 ∨ op = 5 ∨ op = 6 := by omega
  have hf := List.length_filter_le (fun x : Ab => decide (x.k ≠ canon key)) la
  rcases hc with h | h | h | h | h
  · exact ⟨_, .inl ⟨h, rfl⟩, hg, by simp⟩
  · exact ⟨_, .inr (.inl ⟨h, rfl⟩), hg, by simp only [List.length_cons]; omega⟩
  · exact ⟨_, .inr (.inr (.inl ⟨h, rfl⟩)), hg, Nat.le_trans hf (Nat.le_succ _)⟩
  · obtain ⟨c1, c2⟩ := b1 h
    refine ⟨_, .inr (.inr (.inr (.inr (.inl ⟨h, n.toNat, by show n = _; omega, by omega, rfl⟩)))), hg, ?_⟩
    have := List.length_eraseIdx_le la n.toNat
    omega
  · obtain ⟨c1, c2⟩ := h3 h
    refine ⟨_, .inr (.inr (.inr (.inr (.inr ⟨h, n.toNat, by show n = _; omega, by show n.toNat < (la.filter (fun x => decide (x.k = canon key))).length; omega, rfl⟩)))), hg, ?_⟩
    have := eraseKey_len (canon key) n.toNat la
    show (eraseKey (canon key) n.toNat la).length ≤ _
    omega

set_option maxRecDepth 100000 in
set_option maxHeartbeats 8000000 in
theorem headerSteps_any (l : List UInt8) (ss : List St) (sv : Value) (w : World) (hlen : l.length ≤ 2000) (hst : StepsAt w sv ss) (hsn : ss.length ≤ 20) (hz : ∀ s ∈ ss, s.key.length ≤ 2147483647 ∧ s.val.length ≤ 2147483647) :
    Calls Tryz.prog 8 #[str l, sv] w (StepsPost ss ((h9 l).fs.map abP) w) := by
  have H9 := Lib.hid (header9_any l w (by omega))
  have hst2 := hst
  obtain ⟨sa, scap, rfl, _⟩ := hst2
  have HST := Lib.hid hst
  have HZ := Lib.hid hz
  clear hst hz
  generalize h9 l = r0 at *
  obtain ⟨r0f, r0t, r0o, r0s⟩ := r0
  simp only
  go_enter Tryz.func8, Tryz.ntmps8
  go_wp2_with (fail)
  refine H9.out.mono ?_
  rintro e w1 ⟨v1, rfl, hrow, K1, hn1⟩
  simp only at hrow hn1
  have hR0 : Row9 w1 v1 ((r0f.map abP).map abF) := by
    rw [f9s_f9c] at hrow
    have := Row9.of_row (l := r0f.map rawF) (by rw [List.length_map]; exact hrow)
    rw [List.map_map]
    exact this
  have HR0 := Lib.hid hR0
  have HK1 := Lib.hid K1
  clear hrow hR0 K1
  go_wp2
  go_loopg [5, 24] ss.length (fun q s5 s24 wr => ∃ (i : Nat) (la : List Ab), s24 = .int .i64 (i : Int) ∧ i + q = ss.length ∧ Row9 wr s5 (la.map abF) ∧ Chain (ss.take i) (r0f.map abP) la ∧ la.length ≤ 2000 + i ∧ Keeps No w wr)
  case atStart => exact ⟨0, r0f.map abP, rfl, by omega, HR0.out, rfl, by rw [List.length_map]; omega, HK1.out⟩
  case round =>
    obtain ⟨i, la, rfl, hin, hrow, hch, hla, K⟩ := hrel
    have HIN := Lib.hid hin
    have HR := Lib.hid hrow
    have HCH := Lib.hid hch
    have HK := Lib.hid K
    obtain ⟨va, vc, hv⟩ := hrow.shape
    rw [List.length_map] at hv
    subst hv
    have hil : i ≤ ss.length := by omega
    clear hin hrow hch K HR0 HK1
    by_cases hi : i < ss.length
    · have hii : (i : Int) < (ss.length : Int) := by omega
      obtain ⟨sb, so, rfl, _, hscap, c0, c1, c2, c3⟩ := (HST.out.keep HK.out).cells hi
      have hzi := HZ.out ss[i] (List.getElem_mem _)
      have htk : ss.take (i + 1) = ss.take i ++ [ss[i]] := List.take_succ_eq_append_getElem hi
      have hstep : ∀ l2, stepOk ss[i] la l2 → stepGood ss[i] → Chain (ss.take (i + 1)) (r0f.map abP) l2 := fun l2 h1 h2 => by
        rw [htk]
        exact HCH.out.snoc h1 h2
      generalize ss[i] = s at *
      obtain ⟨op, key, val, n⟩ := s
      simp only at c0 c1 c2 c3 hzi
      have hbox := Blk.new wr [.int .i64 op, str key, str val, .int .i64 n] 56
      have HBX := Lib.hid hbox
      have HSTEP := Lib.hid hstep
      have kA : Keeps No wr (wr.alloc (.cells #[.int .i64 op, str key, str val, .int .i64 n] 56)) := (Keeps.refl No wr).alloc _
      have HKA := Lib.hid (HK.out.trans' kA)
      have HRA := Lib.hid (HR.out.keep kA)
      have HKAR := Lib.hid kA
      clear hbox hstep htk kA
      by_cases hop : op = 4
      · subst hop
        have H9v := Lib.hid (fun w => header9_any val w (by omega))
        have HLAW := Lib.hid (h9_rhd val)
        have hraw := fun h => (h9_rhd val h).2
        go_wp2_with (fail)
        refine (H9v.out _).mono ?_
        rintro e w2 ⟨v2, rfl, hrow2, K2, hn2⟩
        generalize hrv : h9 val = r at *
        have HRV := Lib.hid hrv
        clear hrv
        obtain ⟨rf, rt, ro, rs⟩ := r
        simp only at hrow2 hn2
        rw [f9s_f9c] at hrow2
        have hR2 := Row9.of_row (l := rf.map rawF) (by rw [List.length_map]; exact hrow2)
        obtain ⟨oa, oc, hv2⟩ := ownsRow_shape hrow2
        subst hv2
        have HR2 := Lib.hid hR2
        have HB2 := Lib.hid (HBX.out.keep_no K2)
        have HK2 := Lib.hid (HKA.out.trans' K2)
        have HRR := Lib.hid (HRA.out.keep K2)
        clear hrow2 hR2 K2 hraw
        go_upto_region 8 with (fail)
        go_cut [84] (fun s84 wx => ∃ t : Bool, s84 = .bool t ∧ (t = false → rawAsk ⟨rf, rt, ro, rs⟩ key val n) ∧ ∃ q, wx = w2.drewN q)
        case first =>
          have b1 : w2.cell? ⟨wr.heap.size, 1, none⟩ = some (str key) := HB2.out.cell 1
          have b2 : w2.cell? ⟨wr.heap.size, 2, none⟩ = some (str val) := HB2.out.cell 2
          have b3 : w2.cell? ⟨wr.heap.size, 3, none⟩ = some (.int .i64 n) := HB2.out.cell 3
          have hlv := str_len val
          cases ro with
          | false =>
            as_aux_lemma =>
              go_quiet (fail)
              go_wp2
              go_meet
              exact ⟨true, rfl, (fun h => by cases h), _, rfl⟩
          | true =>
          cases rs with
          | false =>
            as_aux_lemma =>
              go_quiet (fail)
              go_wp2
              go_meet
              exact ⟨true, rfl, (fun h => by cases h), _, rfl⟩
          | true =>
          by_cases hl1 : rf.length = 1
          · obtain ⟨p, rfl⟩ := List.length_eq_one_iff.1 hl1
            obtain ⟨g, rfl, _, hgc, _, hcl⟩ := HR2.out.cells (j := 0) (by simp)
            have g2 : w2.cell? ⟨g, 2, none⟩ = some (str p.raw) := (hcl w2 (Keeps.refl _ _)).2.2.1
            clear hcl hl1
            by_cases ht : rt = val.length
            · subst ht
              by_cases hr : p.raw = val
              · have e1 : (p.raw == val) = true := by rw [hr]; simp
                have HRW := Lib.hid hr
                clear hr
                by_cases h3 : 300 < val.length
                · have e2 : decide (300 < val.length) = true := decide_eq_true h3
                  have e3 : decide ((300 : Int) < (val.length : Int)) = true := decide_eq_true (by omega)
                  as_aux_lemma =>
                    go_quiet (fail)
                    go_wp2
                    go_meet
                    exact ⟨true, rfl, (fun h => by cases h), _, rfl⟩
                · have e2 : decide (300 < val.length) = false := decide_eq_false h3
                  have e3 : decide ((300 : Int) < (val.length : Int)) = false := decide_eq_false (by omega)
                  have h3' : val.length ≤ 300 := by omega
                  clear h3
                  cases key with
                  | cons k0 key =>
                    have e4 : (k0 :: key).isEmpty = false := rfl
                    as_aux_lemma =>
                      go_quiet (fail)
                      go_wp2
                      go_meet
                      exact ⟨true, rfl, (fun h => by cases h), _, rfl⟩
                  | nil =>
                    by_cases hn0 : n = 0
                    · subst hn0
                      have HASK := Lib.hid (show rawAsk ⟨[p], val.length, true, true⟩ [] val 0 from ⟨rfl, rfl, rfl, ⟨p, rfl, HRW.out⟩, h3', rfl, rfl⟩)
                      as_aux_lemma =>
                        go_quiet (fail)
                        go_wp2
                        go_meet
                        exact ⟨false, rfl, fun _ => HASK.out, _, rfl⟩
                    · have e5 : (n != 0) = true := by simpa using hn0
                      as_aux_lemma =>
                        go_quiet (fail)
                        go_wp2
                        go_meet
                        exact ⟨true, rfl, (fun h => by cases h), _, rfl⟩
              · have e1 : (p.raw == val) = false := by simpa using hr
                as_aux_lemma =>
                  go_quiet (fail)
                  go_wp2
                  go_meet
                  exact ⟨true, rfl, (fun h => by cases h), _, rfl⟩
            · have ht1 : (rt : Int) ≠ (val.length : Int) := by omega
              have ht2 : ((rt : Int) == (val.length : Int)) = false := by simpa using ht1
              as_aux_lemma =>
                go_quiet (fail)
                go_wp2
                go_meet
                exact ⟨true, rfl, (fun h => by cases h), _, rfl⟩
          · have hl2 : (rf.length : Int) ≠ 1 := by omega
            have hl3 : ((rf.length : Int) == 1) = false := by simpa using hl2
            as_aux_lemma =>
              go_quiet (fail)
              go_wp2
              go_meet
              exact ⟨true, rfl, (fun h => by cases h), _, rfl⟩
        case rest =>
          obtain ⟨t, rfl, hask, q, rfl⟩ := hcut
          have HASK := Lib.hid hask
          clear hask
          cases t with
          | true =>
            go_wp2
            go_ret
            exact ⟨false, rfl, (fun h => by cases h), HK2.out.drewN q⟩
          | false =>
            obtain ⟨a1, a2, a3, ⟨p, a4, a5⟩, a6, a7, a8⟩ := HASK.out rfl
            simp only at a1 a2 a3 a4
            subst a1
            subst a2
            subst a4
            subst a7
            subst a8
            obtain ⟨hlw1, hlw2⟩ := HLAW.out rfl
            obtain ⟨r2, hrd⟩ : ∃ r2, rhd val = some ([p], r2) := by
              cases hrv : rhd val with
              | none => have := hlw1 hrv; cases this
              | some pc =>
                obtain ⟨ps, r2⟩ := pc
                obtain ⟨_, h5, _⟩ := hlw2 ps r2 hrv
                subst h5
                exact ⟨r2, rfl⟩
            have hok : stepOk ⟨4, [], val, 0⟩ la (⟨p.k, p.v, some p.raw⟩ :: la) := .inr (.inr (.inr (.inl ⟨rfl, p, r2, by rw [HRV.out], hrd, a5, rfl⟩)))
            have hgd : stepGood ⟨4, [], val, 0⟩ := ⟨by show val.length ≤ 1200; omega, fun _ => by simp, fun h => by rcases h with h | h <;> cases h⟩
            have HS9 := Lib.hid (stepped9_any ⟨4, [], val, 0⟩ la _ hok (by simp) (by show val.length ≤ 100000; omega) _ (w2.drewN q) (HRR.out.keep ((Keeps.refl No w2).drewN q)) (by omega))
            have HCN := Lib.hid (HSTEP.out _ hok hgd)
            unfold stepV at HS9
            have d0 : (w2.drewN q).cell? ⟨wr.heap.size, 0, none⟩ = some (.int .i64 4) := (HB2.out.drewN q).cell 0
            have d1 : (w2.drewN q).cell? ⟨wr.heap.size, 1, none⟩ = some (str []) := (HB2.out.drewN q).cell 1
            have d2 : (w2.drewN q).cell? ⟨wr.heap.size, 2, none⟩ = some (str val) := (HB2.out.drewN q).cell 2
            have d3 : (w2.drewN q).cell? ⟨wr.heap.size, 3, none⟩ = some (.int .i64 0) := (HB2.out.drewN q).cell 3
            clear hok hgd hlw1 hlw2 hrd a3 a5
            go_wp2_with (fail)
            refine HS9.out.mono ?_
            intro e w3 hp
            obtain ⟨v3, rfl, hrow3, K3⟩ := hp
            have HR3 := Lib.hid (row9_of hrow3)
            have HK3 := Lib.hid ((HK2.out.drewN q).trans' K3)
            clear hrow3 K3 d0 d1 d2 d3
            go_wp2
            go_roundg (gk - 1)
            case measure => have := HIN.out; omega
            case rel => exact ⟨i + 1, _, by simp, by have := HIN.out; omega, HR3.out, HCN.out, by simp only [List.length_cons]; omega, HK3.out⟩
      · have eop : (op == 4) = false := by simpa using hop
        have hlv := str_len val
        have c10 : (wr.alloc (.cells #[.int .i64 op, str key, str val, .int .i64 n] 56)).cell? ⟨wr.heap.size, 0, none⟩ = some (.int .i64 op) := HBX.out.cell 0
        have c11 : (wr.alloc (.cells #[.int .i64 op, str key, str val, .int .i64 n] 56)).cell? ⟨wr.heap.size, 1, none⟩ = some (str key) := HBX.out.cell 1
        have c12 : (wr.alloc (.cells #[.int .i64 op, str key, str val, .int .i64 n] 56)).cell? ⟨wr.heap.size, 2, none⟩ = some (str val) := HBX.out.cell 2
        have c13 : (wr.alloc (.cells #[.int .i64 op, str key, str val, .int .i64 n] 56)).cell? ⟨wr.heap.size, 3, none⟩ = some (.int .i64 n) := HBX.out.cell 3
        go_upto_region 11 with (fail)
        generalize hwA : wr.alloc (.cells #[.int .i64 op, str key, str val, .int .i64 n] 56) = wA at *
        have HWX := Lib.hid hwA
        clear hwA c0 c1 c2 c3
        go_cut [111] (fun s111 wx => ∃ t : Bool, s111 = .bool t ∧ (t = false → 1 ≤ op ∧ op ≤ 6 ∧ val.length ≤ 1200 ∧ (13 : UInt8) ∉ val ∧ (10 : UInt8) ∉ val) ∧ wA = wx)
        case first =>
          by_cases h1 : op < 1
          · have e1 : decide (op < 1) = true := decide_eq_true h1
            as_aux_lemma =>
              go_wp2
              go_meet
              exact ⟨true, rfl, (fun h => by cases h), rfl⟩
          · have e1 : decide (op < 1) = false := decide_eq_false h1
            by_cases h2 : 6 < op
            · have e2 : decide (6 < op) = true := decide_eq_true h2
              as_aux_lemma =>
                go_wp2
                go_meet
                exact ⟨true, rfl, (fun h => by cases h), rfl⟩
            · have e2 : decide (6 < op) = false := decide_eq_false h2
              by_cases h3 : 1200 < val.length
              · have e3 : decide (1200 < val.length) = true := decide_eq_true h3
                have e4 : decide ((1200 : Int) < (val.length : Int)) = true := decide_eq_true (by omega)
                as_aux_lemma =>
                  go_wp2
                  go_meet
                  exact ⟨true, rfl, (fun h => by cases h), rfl⟩
              · have e3 : decide (1200 < val.length) = false := decide_eq_false h3
                have e4 : decide ((1200 : Int) < (val.length : Int)) = false := decide_eq_false (by omega)
                have hB1 := Lib.hid (fun w => hasByte9_any val 13 w (by omega))
                have hB2 := Lib.hid (fun w => hasByte9_any val 10 w (by omega))
                have hb1 : (val.contains 13) = true ∨ ((val.contains 13) = false ∧ (13 : UInt8) ∉ val) := by
                  by_cases h : (13 : UInt8) ∈ val
                  · exact .inl (by simpa using h)
                  · exact .inr ⟨by simpa using h, h⟩
                have hb2 : (val.contains 10) = true ∨ ((val.contains 10) = false ∧ (10 : UInt8) ∉ val) := by
                  by_cases h : (10 : UInt8) ∈ val
                  · exact .inl (by simpa using h)
                  · exact .inr ⟨by simpa using h, h⟩
                have HBB1 := Lib.hid hb1
                have HBB2 := Lib.hid hb2
                clear hb1 hb2
                go_wp2_with (fail)
                refine (hB1.out _).mono ?_
                rintro e w2 ⟨rfl, rfl⟩
                rcases HBB1.out with hc | ⟨hc, hc1⟩
                · rw [hc]
                  as_aux_lemma =>
                    go_wp2
                    go_meet
                    exact ⟨true, rfl, (fun h => by cases h), rfl⟩
                · rw [hc]
                  have HC1 := Lib.hid hc1
                  clear hc hc1
                  go_wp2_with (fail)
                  refine (hB2.out _).mono ?_
                  rintro e w2 ⟨rfl, rfl⟩
                  rcases HBB2.out with hc | ⟨hc, hc2⟩
                  · rw [hc]
                    as_aux_lemma =>
                      go_wp2
                      go_meet
                      exact ⟨true, rfl, (fun h => by cases h), rfl⟩
                  · rw [hc]
                    have HC2 := Lib.hid hc2
                    have HH := Lib.hid (show 1 ≤ op ∧ op ≤ 6 ∧ val.length ≤ 1200 ∧ (13 : UInt8) ∉ val ∧ (10 : UInt8) ∉ val from ⟨by omega, by omega, by omega, HC1.out, HC2.out⟩)
                    clear hc hc2
                    as_aux_lemma =>
                      go_wp2
                      go_meet
                      exact ⟨false, rfl, fun _ => HH.out, rfl⟩
        case rest =>
          obtain ⟨t, rfl, hask, rfl⟩ := hcut
          have HA1 := Lib.hid hask
          clear hask
          cases t with
          | true =>
            go_wp2
            go_ret
            exact ⟨false, rfl, (fun h => by cases h), HKA.out⟩
          | false =>
          go_upto_region 13 with (fail)
          go_cut [137] (fun s137 wx => ∃ t : Bool, s137 = .bool t ∧ (t = false → (op = 5 → 0 ≤ n ∧ n < (la.length : Int)) ∧ (op ≠ 5 → tok9 key = true)) ∧ wA = wx)
          case first =>
            by_cases h5 : op = 5
            · subst h5
              by_cases h1 : n < 0
              · have e1 : decide (n < 0) = true := decide_eq_true h1
                as_aux_lemma =>
                  go_wp2
                  go_meet
                  exact ⟨true, rfl, (fun h => by cases h), rfl⟩
              · have e1 : decide (n < 0) = false := decide_eq_false h1
                by_cases h2 : (la.length : Int) ≤ n
                · have e2 : decide ((la.length : Int) ≤ n) = true := decide_eq_true h2
                  as_aux_lemma =>
                    go_wp2
                    go_meet
                    exact ⟨true, rfl, (fun h => by cases h), rfl⟩
                · have e2 : decide ((la.length : Int) ≤ n) = false := decide_eq_false h2
                  have HH := Lib.hid (show ((5 : Int) = 5 → 0 ≤ n ∧ n < (la.length : Int)) ∧ ((5 : Int) ≠ 5 → tok9 key = true) from ⟨fun _ => ⟨by omega, by omega⟩, fun h => absurd rfl h⟩)
                  as_aux_lemma =>
                    go_wp2
                    go_meet
                    exact ⟨false, rfl, fun _ => HH.out, rfl⟩
            · have e5 : (op == 5) = false := by simpa using h5
              have e6 : (op != 5) = true := by simpa using h5
              have HT := Lib.hid (fun w => token9_any key w (by omega))
              go_wp2_with (fail)
              refine (HT.out _).mono ?_
              rintro e w2 ⟨rfl, rfl⟩
              generalize htk : tok9 key = tk
              have HTK := Lib.hid htk
              clear htk
              cases tk with
              | false =>
                as_aux_lemma =>
                  go_wp2
                  go_meet
                  exact ⟨true, rfl, (fun h => by cases h), rfl⟩
              | true =>
                have HH := Lib.hid (show (op = 5 → 0 ≤ n ∧ n < (la.length : Int)) ∧ (op ≠ 5 → tok9 key = true) from ⟨fun h => absurd h h5, fun _ => HTK.out⟩)
                as_aux_lemma =>
                  go_wp2
                  go_meet
                  exact ⟨false, rfl, fun _ => HH.out, rfl⟩
          case rest =>
            obtain ⟨t, rfl, hask, rfl⟩ := hcut
            have HA2 := Lib.hid hask
            clear hask
            cases t with
            | true =>
              go_wp2
              go_ret
              exact ⟨false, rfl, (fun h => by cases h), HKA.out⟩
            | false =>
            go_upto_region 15 with (fail)
            go_cut [159] (fun s159 wx => ∃ t : Bool, s159 = .bool t ∧ (t = false → op = 6 → 0 ≤ n ∧ n < ((la.filter (fun x => decide (x.k = canon key))).length : Int)) ∧ Keeps No wA wx)
            case first =>
              by_cases h6 : op = 6
              · subst h6
                by_cases h1 : n < 0
                · have e1 : decide (n < 0) = true := decide_eq_true h1
                  as_aux_lemma =>
                    go_quiet (fail)
                    go_wp2
                    go_meet
                    exact ⟨true, rfl, (fun h => by cases h), (Keeps.refl No wA).drewN _⟩
                · have e1 : decide (n < 0) = false := decide_eq_false h1
                  have hcnt : (wo (canon key) 0 0 0 la).length + (la.filter (fun x => decide (x.k = canon key))).length = la.length := by rw [wo_all]; exact filter_two la (canon key)
                  generalize hfc : (la.filter (fun x => decide (x.k = canon key))).length = fc at *
                  have HFC := Lib.hid hfc
                  have HWO := Lib.hid (fun v w hr => without9_any la (canon key) 0 0 (.inl rfl) v w hr (by omega))
                  generalize wo (canon key) 0 0 0 la = lw at *
                  have hsub : IntKind.i64.wrap ((la.length : Int) - (lw.length : Int)) = (fc : Int) := by rw [IntKind.wrap_i64]; omega
                  have HBXA := Lib.hid (show Blk wA wr.heap.size [.int .i64 6, str key, str val, .int .i64 n] 56 from HBX.out)
                  have HRAW := Lib.hid (show Row9 wA (.slice va la.length vc) (la.map abF) from HRA.out)
                  clear hfc hcnt c10 c11 c12 c13
                  refine region_segs [([0, 1, 2, 3, 4, 5, 6, 7, 8, 9, 10, 11, 12, 13, 14], 15), ([], 16)] [17, 18, 19, 20] 21 (fun W => W.cell? ⟨wr.heap.size, 0, none⟩ = some (.int .i64 6) ∧ W.cell? ⟨wr.heap.size, 1, none⟩ = some (str key) ∧ W.cell? ⟨wr.heap.size, 3, none⟩ = some (.int .i64 n)) (by kernel_rfl) (by kernel_rfl) ?_ ?_
                  · exact ⟨HBXA.out.drew.cell 0, HBXA.out.drew.cell 1, HBXA.out.drew.cell 3⟩
                  simp only [segPick, List.map_cons, List.map_nil, pick, List.filterMap_cons, List.filterMap_nil, List.getElem?_cons_succ, List.getElem?_cons_zero, List.drop_succ_cons, List.drop_zero]
                  rw [wpSegs]
                  intro ι F hne hF
                  have d1 := fun j => (hF j).1
                  have d2 := fun j => (hF j).2.1
                  have d3 := fun j => (hF j).2.2
                  clear hF
                  repeat (quiet_step (fail))
                  refine wpQuiet_nil ?_
                  clear d1 d2 d3 hne F ι
                  go_wp2_with (fail)
                  refine (canonical9_any key _ (by omega)).mono ?_
                  rintro e w2 ⟨rfl, K2⟩
                  have k2 : Keeps No wA w2 := ((Keeps.refl No wA).drew).trans' K2
                  have HB2 := Lib.hid (HBXA.out.keep_no k2)
                  have HK2 := Lib.hid k2
                  clear K2 k2
                  go_wp2
                  refine EffPost.intro ⟨HB2.out.cell 0, HB2.out.cell 1, HB2.out.cell 3⟩ ?_
                  rw [wpSegs]
                  intro ι F hne hF
                  clear hF
                  repeat (quiet_step (fail))
                  refine wpQuiet_nil ?_
                  clear hne F ι
                  go_wp2_with (fail)
                  refine (HWO.out _ _ (HRAW.out.keep HK2.out)).mono ?_
                  rintro e w3 ⟨v3, rfl, hrow3, K3⟩
                  obtain ⟨oa3, oc3, rfl⟩ := ownsRow_shape hrow3
                  have HB3 := Lib.hid (HB2.out.keep_no K3)
                  have HK3 := Lib.hid (HK2.out.trans' K3)
                  clear hrow3 K3
                  by_cases h2 : (fc : Int) ≤ n
                  · have e2 : decide ((fc : Int) ≤ n) = true := decide_eq_true h2
                    go_wp2
                    refine EffPost.intro ⟨HB3.out.cell 0, HB3.out.cell 1, HB3.out.cell 3⟩ ?_
                    rw [wpSegs]
                    intro ι F hne hF
                    clear hF
                    repeat (quiet_step (fail))
                    refine wpQuiet_nil ?_
                    clear hne F ι
                    as_aux_lemma =>
                      go_wp2
                      go_meet
                      exact ⟨true, rfl, (fun h => by cases h), HK3.out⟩
                  · have e2 : decide ((fc : Int) ≤ n) = false := decide_eq_false h2
                    go_wp2
                    refine EffPost.intro ⟨HB3.out.cell 0, HB3.out.cell 1, HB3.out.cell 3⟩ ?_
                    rw [wpSegs]
                    intro ι F hne hF
                    clear hF
                    repeat (quiet_step (fail))
                    refine wpQuiet_nil ?_
                    clear hne F ι
                    as_aux_lemma =>
                      go_wp2
                      go_meet
                      exact ⟨false, rfl, (fun _ _ => ⟨by omega, by omega⟩), HK3.out⟩
              · have e6 : (op == 6) = false := by simpa using h6
                have H6 := Lib.hid h6
                clear h6
                as_aux_lemma =>
                  go_quiet (fail)
                  go_wp2
                  go_meet
                  exact ⟨false, rfl, (fun _ h => absurd h H6.out), (Keeps.refl No wA).drewN _⟩
            case rest =>
              obtain ⟨t, rfl, hask, KX⟩ := hcut
              have HA3 := Lib.hid hask
              have HKX := Lib.hid (HKA.out.trans' KX)
              have HRX := Lib.hid (HRA.out.keep KX)
              have HBX2 := Lib.hid (HBX.out.keep_no KX)
              clear hask KX
              cases t with
              | true =>
                go_wp2
                go_ret
                exact ⟨false, rfl, (fun h => by cases h), HKX.out⟩
              | false =>
              obtain ⟨l2, hok, hgd, hl2⟩ := steps_ask la op key val n (HA1.out rfl) (HA2.out rfl) (HA3.out rfl) hop
              have HS9 := Lib.hid (stepped9_any ⟨op, key, val, n⟩ la l2 hok (by simp only; omega) (Nat.le_trans hgd.1 (by decide)) _ _ HRX.out (by omega))
              have HCN := Lib.hid (HSTEP.out _ hok hgd)
              unfold stepV at HS9
              have d0 := HBX2.out.cell 0
              have d1 := HBX2.out.cell 1
              have d2 := HBX2.out.cell 2
              have d3 := HBX2.out.cell 3
              clear hok hgd c10 c11 c12 c13
              go_wp2_with (fail)
              refine HS9.out.mono ?_
              intro e w3 hp
              obtain ⟨v3, rfl, hrow3, K3⟩ := hp
              have HR3 := Lib.hid (row9_of hrow3)
              have HK3 := Lib.hid (HKX.out.trans' K3)
              clear hrow3 K3 d0 d1 d2 d3
              go_wp2
              go_roundg (gk - 1)
              case measure => have := HIN.out; omega
              case rel => exact ⟨i + 1, l2, by simp, by have := HIN.out; omega, HR3.out, HCN.out, by omega, HK3.out⟩
    · have hin : i = ss.length := by omega
      have e1 : decide ((i : Int) < (ss.length : Int)) = false := decide_eq_false (by omega)
      have hfin : Chain ss (r0f.map abP) la := by
        have := HCH.out
        rw [hin, List.take_length] at this
        exact this
      have HFIN := Lib.hid hfin
      clear hin hfin
      go_wp2
      go_ret
      exact ⟨true, rfl, fun _ => ⟨la, HFIN.out⟩, HK.out⟩
end Go.Proofs.YtjbbapodcngnaaaGreatDoor
