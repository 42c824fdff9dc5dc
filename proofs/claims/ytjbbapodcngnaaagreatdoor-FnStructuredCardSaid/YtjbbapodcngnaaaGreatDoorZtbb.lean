/- A part as a source: what stands in memory; partReader.Read. A part is a source; a new part. NextPart. Media types: small letters, blanks at the ends: of texts that have none to turn. Media types: blanks ahead; a parameter. Media types: prefixes; a parameter; the check of a type; maps of texts. Media types: ParseMediaType, of what stands in these messages. -/
import Derived.Test.YtjbbapodcngnaaaGreatDoorZtba
import Derived.Test.YtjbbapodcngnaaaGreatDoorZtaa
import Derived.Test.YtjbbapodcngnaaaGreatDoorZsad
import Derived.Laws.IdiomRangeMap
import Derived.Maps.RangeRun
namespace Go.Proofs.YtjbbapodcngnaaaGreatDoor.G
open Go.RowKit Hdr

/-- The cells of a part. -/
def ptc (hl hm : Value) (M Pb : Nat) (n tot : Int) (err : Value) : List Value :=
  [hl, hm, .pointer (some ⟨M, 0, none⟩), .iface 259 (.agg #[.pointer (some ⟨Pb, 0, none⟩)]), .int .i64 n, .int .i64 tot, err, .nilIface]
/-- Where a part lies: its own block, the multipart reader's, the boundary's, the bufio.Reader's, its buffer's, the sticky reader's. -/
structure PL where
  Pb : Nat
  M : Nat
  B0 : Nat
  b : Nat
  g : Nat
  k : Nat
  cap : Nat
  X : Src
  bn : List UInt8
  t : List UInt8
  pn : Nat
def PL.own (L : PL) : Nat → Prop := fun x => x = L.Pb ∨ x = L.M ∨ x = L.B0 ∨ InX L.b L.g (stickySrc L.k L.X) x
def PL.nl (L : PL) : List UInt8 := 13 :: 10 :: 45 :: 45 :: L.bn
def PL.da (L : PL) : List UInt8 := 45 :: 45 :: L.bn

/-- A part, laid open: n bytes of it are known to stand in the buffer. -/
structure PD (L : PL) (w : World) (s : List UInt8) (hl hm : Value) (n tot : Nat) (err : Value) (cp : Value) (pn : Nat) : Prop where
  P : Blk w L.Pb (ptc hl hm L.M L.Pb n tot err) 176
  Mr : MrB w L.M L.b L.B0 L.cap cp pn L.bn
  nP : ¬ InX L.b L.g (stickySrc L.k L.X) L.Pb
  nM : ¬ InX L.b L.g (stickySrc L.k L.X) L.M
  nB : ¬ InX L.b L.g (stickySrc L.k L.X) L.B0
  pB : L.Pb ≠ L.B0
  mB : L.M ≠ L.B0
  bd : Bnd L.da L.nl L.t
  safe : Safe s L.nl L.t
  safe0 : tot = 0 → Safe0 s L.da L.nl L.t
  hn : n ≤ s.length
  he : err = .nilIface ∨ err = (.iface 203 (.pointer (some L.X.ea))) ∧ n = s.length
  hlen : tot + s.length ≤ 100000000
theorem PD.pM {L : PL} {w : World} {s : List UInt8} {hl hm : Value} {n tot : Nat} {err cp : Value} {pn : Nat} (h : PD L w s hl hm n tot err cp pn) : L.Pb ≠ L.M := h.P.ne h.Mr.B (by decide)
theorem PD.keep {T : Nat → Prop} {L : PL} {w w' : World} {s : List UInt8} {hl hm : Value} {n tot : Nat} {err cp : Value} {pn : Nat} (h : PD L w s hl hm n tot err cp pn) (k : Keeps T w w') (hS : ∀ x, (x = L.Pb ∨ x = L.M ∨ x = L.B0) → ¬ T x) : PD L w' s hl hm n tot err cp pn :=
  ⟨h.P.keep k (hS _ (.inl rfl)), h.Mr.keep k (hS _ (.inr (.inl rfl))) (hS _ (.inr (.inr rfl))), h.nP, h.nM, h.nB, h.pB, h.mB, h.bd, h.safe, h.safe0, h.hn, h.he, h.hlen⟩
/-- A part: s is still to come. -/
def PartS (L : PL) (w : World) (s : List UInt8) : Prop :=
  ∃ hl hm n tot err cp pn, (cp = .pointer (some ⟨L.Pb, 0, none⟩) ∧ pn = L.pn) ∧ PD L w s hl hm n tot err cp pn ∧ Rd w L.b L.g (stickySrc L.k L.X) (s ++ L.nl ++ L.t)

/-- .. as partReader.Read leaves it. -/
def PrPost (L : PL) (d o len : Nat) (cs : List Value) (s : List UInt8) (w : World) (e : Ending) (w' : World) : Prop :=
  ∃ (n : Nat) (err : Value), e = .returned (.tuple #[.int .i64 n, err]) ∧ n ≤ len ∧ n ≤ s.length ∧ (0 < n ∧ err = .nilIface ∨ n = s.length ∧ err = (.iface 203 (.pointer (some L.X.ea)))) ∧ PartS L w' (s.drop n) ∧
    Blk w' d (cs.take o ++ u8s (s.take n) ++ cs.drop (o + n)) 5 ∧ Keeps (fun x => L.own x ∨ x = d) w w'

theorem Env.keepN {N b g : Nat} {X : Src} {w w' : World} {S : Nat → Prop} (h : Env N b g X w) (k : Keeps S w w') (hS : ∀ x, S x → N ≤ x) : Env N b g X w' := ⟨h.ok, h.hB, h.hG, h.laid.keep k hS⟩

set_option maxRecDepth 100000 in
set_option maxHeartbeats 4000000 in
theorem partRead_any (L : PL) {N : Nat} (d o len cap : Nat) (cs : List Value) (w : World) (s : List UInt8) (h : PartS L w s) (E : Env N L.b L.g (stickySrc L.k L.X) w) (hPN : N ≤ L.Pb) (hMN : N ≤ L.M) (hBN : N ≤ L.B0) (hd : Blk w d cs 5) (hnd : ¬ L.own d) (hdN : N ≤ d) (hlen : 0 < len) (hcap : len ≤ cap) (hfit : o + len ≤ cs.length) (hcs : cs.length ≤ 1000000) :
    Calls Tryz.prog 273 #[.agg #[.pointer (some ⟨L.Pb, 0, none⟩)], .slice (some ⟨d, o, none⟩) len cap] w (PrPost L d o len cs s w) := by
  obtain ⟨hl, hm, n0, tot, err0, cp, pn, hcp, D, R⟩ := h
  have HCP := Lib.hid hcp
  clear hcp
  have hND : ¬ InX L.b L.g (stickySrc L.k L.X) d := fun h => hnd (.inr (.inr (.inr h)))
  have hdP : d ≠ L.Pb := fun h => hnd (.inl h)
  have hdM : d ≠ L.M := fun h => hnd (.inr (.inl h))
  have hdB : d ≠ L.B0 := fun h => hnd (.inr (.inr (.inl h)))
  have hown : ∀ x, L.own x → x < w.heap.size := fun x hx => by
    rcases hx with rfl | rfl | rfl | hx
    · exact D.P.lt
    · exact D.Mr.B.lt
    · exact D.Mr.D.lt
    · exact R.lt x hx
  have hOx : ∀ x, L.own x → N ≤ x := fun x hx => by
    rcases hx with rfl | rfl | rfl | hx
    · exact hPN
    · exact hMN
    · exact hBN
    · exact E.low hx
  have c2 : w.cell? ⟨L.Pb, 2, none⟩ = some (.pointer (some ⟨L.M, 0, none⟩)) := D.P.cell 2
  have m0 : w.cell? ⟨L.M, 0, none⟩ = some (.pointer (some ⟨L.b, 0, none⟩)) := D.Mr.B.cell 0
  have hPw := D.P.lt
  have hMw := D.Mr.B.lt
  have HD := Lib.hid D
  have HRd := Lib.hid R
  have HE := Lib.hid E
  have HDB := Lib.hid hd
  have HOWN := Lib.hid hown
  clear D R E hd hnd hown
  go_enter Tryz.func273, Tryz.ntmps273
  go_upto_block 0 with (fail)
  have K0 : Keeps No w (w.alloc (.cells #[.pointer (some ⟨L.Pb, 0, none⟩)] 259)) := (Keeps.refl No w).alloc _
  generalize (w.alloc (.cells #[.pointer (some ⟨L.Pb, 0, none⟩)] 259)) = w1 at *
  go_cut [] (fun wx => ∃ n err, PD L wx s hl hm n tot err cp pn ∧ Rd wx L.b L.g (stickySrc L.k L.X) (s ++ L.nl ++ L.t) ∧ (n = 0 → err = (.iface 203 (.pointer (some L.X.ea)))) ∧ Keeps L.own w wx)
  case first =>
    obtain ⟨kb0, hB0⟩ := (HRd.out.keep_no K0).bf
    have HB0 := Lib.hid hB0
    clear hB0 c2 m0
    go_wp2
    go_loopg [] (L.bn.length + 6) (fun K wr => ∃ n err kb, PD L wr s hl hm n tot err cp pn ∧ Bf wr L.b L.g (stickySrc L.k L.X) (s ++ L.nl ++ L.t) kb ∧ (n = 0 ∧ err = .nilIface → L.bn.length + 6 ≤ K + kb ∧ 0 < K) ∧ Keeps L.own w wr)
    case atStart => exact ⟨n0, err0, kb0, HD.out.keep K0 (fun _ _ h => h), HB0.out, fun _ => by omega, K0.of_no⟩
    case round =>
      obtain ⟨n, err, kb, D, B, hK, K⟩ := hrel
      have p2 : wr.cell? ⟨L.Pb, 2, none⟩ = some (.pointer (some ⟨L.M, 0, none⟩)) := D.P.cell 2
      have p4 : wr.cell? ⟨L.Pb, 4, none⟩ = some (.int .i64 n) := D.P.cell 4
      have p6 : wr.cell? ⟨L.Pb, 6, none⟩ = some err := D.P.cell 6
      have HK := Lib.hid hK
      have HBf := Lib.hid B
      have HDr := Lib.hid D
      have hEc := D.he
      clear hK B D
      by_cases hn : n = 0
      · subst hn
        rcases hEc with rfl | ⟨rfl, -⟩
        · obtain ⟨hkk, hkk0⟩ := HK.out ⟨rfl, rfl⟩
          clear HK
          have hEr := (HE.out.keepN K (fun x hx => hOx x hx))
          have hle := HBf.out.le
          go_wp2_with (fail)
          refine (buffered L.b L.g (stickySrc L.k L.X) kb wr _ HBf.out).mono ?_
          rintro e w2 ⟨rfl, nq, rfl⟩
          go_wp2_with (fail)
          refine (peek_n L.b L.g (stickySrc L.k L.X) kb kb _ _ (HBf.out.drewN nq) hle.1 hle.2 (hEr.drewN nq)).mono ?_
          rintro e w3 ⟨po, pcap, k', rfl, hpc, hby, B3, -, -, hk', K3⟩
          obtain rfl := hk' (Nat.le_refl _)
          go_upto_region 5 with (fail)
          obtain ⟨_, hmm1, _, _, hm4, _, hm6⟩ := (HDr.out.Mr.keep (S := InX L.b L.g (stickySrc L.k L.X)) K3.drewN_left HDr.out.nM HDr.out.nB).cells
          have K3' : Keeps (InX L.b L.g (stickySrc L.k L.X)) wr w3 := K3.drewN_left
          have D3 : PD L w3 s hl hm 0 tot .nilIface cp pn := HDr.out.keep K3' (fun x hx => by rcases hx with rfl | rfl | rfl; exact HDr.out.nP; exact HDr.out.nM; exact HDr.out.nB)
          have E3 := hEr.keep3 K3'
          have hC3 : ∀ q : Nat, (w3.drewN q).cell? ⟨L.Pb, 2, none⟩ = some (.pointer (some ⟨L.M, 0, none⟩)) ∧ (w3.drewN q).cell? ⟨L.Pb, 5, none⟩ = some (.int .i64 tot) ∧ (w3.drewN q).cell? ⟨L.Pb, 7, none⟩ = some .nilIface ∧
              (w3.drewN q).cell? ⟨L.M, 4, none⟩ = some (.slice (some ⟨L.B0, 0, none⟩) (L.bn.length + 4) L.cap) ∧ (w3.drewN q).cell? ⟨L.M, 6, none⟩ = some (.slice (some ⟨L.B0, 2, none⟩) (L.bn.length + 2) (L.cap - 2)) :=
            fun q => ⟨(D3.P.drewN q).cell 2, (D3.P.drewN q).cell 5, (D3.P.drewN q).cell 7, D3.Mr.B.cell 4, D3.Mr.B.cell 6⟩
          have hC4 : ∀ (q : Nat) (v : Value), ((w3.drewN q).setCell ⟨L.Pb, 4, none⟩ v).cell? ⟨L.Pb, 2, none⟩ = some (.pointer (some ⟨L.M, 0, none⟩)) ∧ ((w3.drewN q).setCell ⟨L.Pb, 4, none⟩ v).cell? ⟨L.Pb, 5, none⟩ = some (.int .i64 tot) ∧ ((w3.drewN q).setCell ⟨L.Pb, 4, none⟩ v).cell? ⟨L.Pb, 7, none⟩ = some .nilIface ∧
              ((w3.drewN q).setCell ⟨L.Pb, 4, none⟩ v).cell? ⟨L.M, 4, none⟩ = some (.slice (some ⟨L.B0, 0, none⟩) (L.bn.length + 4) L.cap) ∧ ((w3.drewN q).setCell ⟨L.Pb, 4, none⟩ v).cell? ⟨L.M, 6, none⟩ = some (.slice (some ⟨L.B0, 2, none⟩) (L.bn.length + 2) (L.cap - 2)) :=
            fun q v => ⟨((D3.P.drewN q).set 4 v).cell 2, ((D3.P.drewN q).set 4 v).cell 5, ((D3.P.drewN q).set 4 v).cell 7, ((D3.Mr.B.drewN q).set_other D3.pM v).cell 4, ((D3.Mr.B.drewN q).set_other D3.pM v).cell 6⟩
          have HC3 := Lib.hid hC3
          have HC4 := Lib.hid hC4
          have HD3 := Lib.hid D3
          have HB3 := Lib.hid B3
          have HBY := Lib.hid hby
          have HE3 := Lib.hid E3
          clear hC4 D3 B3 hby E3 hmm1 hm4 hm6 hk' p2 p4 p6 hEr
          refine region_segs [([0, 1, 2, 3, 4, 5, 6, 7, 8, 9, 10, 11, 12, 13, 14, 15, 16, 17, 18, 19, 20, 21, 22, 23, 24], 25), ([26, 27, 28, 29, 30], 31)] [32, 33] 34 (fun W => W.cell? ⟨L.Pb, 2, none⟩ = some (.pointer (some ⟨L.M, 0, none⟩)) ∧ W.cell? ⟨L.Pb, 5, none⟩ = some (.int .i64 tot) ∧ W.cell? ⟨L.Pb, 7, none⟩ = some .nilIface ∧ W.cell? ⟨L.M, 4, none⟩ = some (.slice (some ⟨L.B0, 0, none⟩) (L.bn.length + 4) L.cap) ∧ W.cell? ⟨L.M, 6, none⟩ = some (.slice (some ⟨L.B0, 2, none⟩) (L.bn.length + 2) (L.cap - 2))) (by kernel_rfl) (by kernel_rfl) ?_ ?_
          · exact hC3 1
          clear hC3
          simp only [segPick, List.map_cons, List.map_nil, pick, List.filterMap_cons, List.filterMap_nil, List.getElem?_cons_succ, List.getElem?_cons_zero, List.drop_succ_cons, List.drop_zero]
          rw [wpSegs]
          intro ι F hne hF
          have d1 := fun j => (hF j).1
          have d2 := fun j => (hF j).2.1
          have d3 := fun j => (hF j).2.2.1
          have d4 := fun j => (hF j).2.2.2.1
          have d5 := fun j => (hF j).2.2.2.2
          clear hF
          repeat (quiet_step (fail))
          refine wpQuiet_nil ?_
          clear d1 d2 d3 d4 d5 hne F ι
          have hgood := scan_law s L.da L.nl L.t HDr.out.bd HDr.out.safe ((tot : Int) == 0) (fun h => HDr.out.safe0 (by simpa using h)) k' hle.1
          generalize hcc : (s ++ L.nl ++ L.t) = c at *
          have hpl : k' = (c.take k').length := by rw [List.length_take]; omega
          have HPL := Lib.hid hpl
          have hxa : (stickySrc L.k L.X).ea = L.X.ea := rfl
          have heof : ∀ q, (w3.drewN q).cell? ⟨0, 0, none⟩ = some (.iface 203 (.pointer (some L.X.ea))) := fun q => HE3.out.laid.eof
          have HEOF := Lib.hid heof
          have HG := Lib.hid hgood
          have HCC := Lib.hid hcc
          have HD4 := Lib.hid (HD3.out.keep (Keeps.refl No w3).drew (fun _ _ h => h))
          clear hpl hxa heof hgood hcc
          go_wp2_with (fail)
          refine (scan_any L.g po k' pcap L.B0 2 (L.bn.length + 2) (L.cap - 2) L.B0 0 (L.bn.length + 4) L.cap (c.take k') L.da L.nl HPL.out rfl rfl L.X.ea w3.drew tot (HBY.out.keep (Keeps.refl No w3).drew (fun h => h)) HD4.out.Mr.da HD4.out.Mr.nd hpc (by omega) (by omega) (by have := HD4.out.Mr.c2; omega) (by have := HD3.out.Mr.c1; omega) (by have := HD3.out.Mr.c1; omega) rfl (HEOF.out 1)).mono ?_
          rintro e w4 ⟨rfl, hDw⟩
          obtain ⟨nq2, rfl⟩ := hDw
          generalize scan (c.take k') L.da L.nl ((tot : Int) == 0) = sc at *
          obtain ⟨n1, eb⟩ := sc
          have hw4 : (w3.drew.drewN nq2) = w3.drewN (1 + nq2) := World.drewN_drewN w3 1 nq2
          rw [hw4]
          generalize 1 + nq2 = q4 at *
          clear hw4
          obtain ⟨g1, g2, g3, g4⟩ := HG.out
          dsimp only at g1 g2 g3 g4
          have D5 : ∀ v : Value, Blk ((w3.drewN q4).setCell ⟨L.Pb, 4, none⟩ (.int .i64 n1)) L.Pb (ptc hl hm L.M L.Pb n1 tot .nilIface) 176 := fun _ => ((HD3.out.P.drewN q4).set 4 _).to rfl
          have fz3 := HD3.out.P.frozen
          have k4 : w3.cell? ⟨L.Pb, 4, none⟩ = some (.int .i64 (0 : Nat)) := HD3.out.P.cell 4
          have k6 : w3.cell? ⟨L.Pb, 6, none⟩ = some .nilIface := HD3.out.P.cell 6
          have hD5 : ∀ (v : Value), (v = .nilIface ∨ v = (.iface 203 (.pointer (some L.X.ea))) ∧ n1 = s.length) → PD L (((w3.drewN q4).setCell ⟨L.Pb, 4, none⟩ (.int .i64 n1)).setCell ⟨L.Pb, 6, none⟩ v) s hl hm n1 tot v cp pn := fun v hv =>
            ⟨((D5 v).set 6 v).to rfl, (HD3.out.Mr.keep (S := In [L.Pb]) (((Keeps.refl _ w3).drewN q4).setCell (.inl (by simp [In])) _ |>.setCell (.inl (by simp [In])) _) (fun h => by simp [In] at h; exact HD3.out.pM h.symm) (fun h => by simp [In] at h; exact HD3.out.pB h.symm)), HD3.out.nP, HD3.out.nM, HD3.out.nB, HD3.out.pB, HD3.out.mB, HD3.out.bd, HD3.out.safe, HD3.out.safe0, g1, hv, HD3.out.hlen⟩
          have hB5 : ∀ (v : Value), Bf (((w3.drewN q4).setCell ⟨L.Pb, 4, none⟩ (.int .i64 n1)).setCell ⟨L.Pb, 6, none⟩ v) L.b L.g (stickySrc L.k L.X) c k' := fun v =>
            HB3.out.keep (S := In [L.Pb]) (((Keeps.refl _ w3).drewN q4).setCell (.inl (by simp [In])) _ |>.setCell (.inl (by simp [In])) _) (fun x hx h => by simp [In] at h; subst h; exact HD3.out.nP hx)
          have hK5 : ∀ (v : Value), Keeps L.own w (((w3.drewN q4).setCell ⟨L.Pb, 4, none⟩ (.int .i64 n1)).setCell ⟨L.Pb, 6, none⟩ v) := fun v =>
            (((K.trans' (K3'.mono (fun x _ h => .inr (.inr (.inr h))))).drewN q4).setCell (.inl (.inl rfl)) _).setCell (.inl (.inl rfl)) _
          have HD5 := Lib.hid hD5
          have HB5 := Lib.hid hB5
          have HK5 := Lib.hid hK5
          have HG1 := Lib.hid g1
          have HG3 := Lib.hid g3
          have HG4 := Lib.hid g4
          clear D5 hD5 hB5 hK5 g1 g3 g4
          cases eb with
          | true =>
            dsimp only [endV_true]
            have hns := HG3.out (by first | rfl | trivial)
            have HNS := Lib.hid hns
            clear hns
            go_wp2
            refine EffPost.intro (HC3.out q4) ?_
            rw [wpSegs]
            intro ι F hne hF
            clear hF
            repeat (quiet_step (fail))
            refine wpQuiet_nil ?_
            clear hne F ι
            go_wp2
            refine EffPost.intro (HC4.out q4 _) ?_
            rw [wpSegs]
            intro ι F hne hF
            clear hF
            repeat (quiet_step (fail))
            refine wpQuiet_nil ?_
            clear hne F ι
            go_upto_region 6 with (fail)
            have D5 := HD5.out (.iface 203 (.pointer (some L.X.ea))) (.inr ⟨rfl, HNS.out⟩)
            have B5 := HB5.out (.iface 203 (.pointer (some L.X.ea)))
            have K5 := HK5.out (.iface 203 (.pointer (some L.X.ea)))
            generalize (((w3.drewN q4).setCell ⟨L.Pb, 4, none⟩ (.int .i64 n1)).setCell ⟨L.Pb, 6, none⟩ (.iface 203 (.pointer (some L.X.ea)))) = w5 at D5 B5 K5 ⊢
            have t4 : w5.cell? ⟨L.Pb, 4, none⟩ = some (.int .i64 n1) := D5.P.cell 4
            have t6 : w5.cell? ⟨L.Pb, 6, none⟩ = some (.iface 203 (.pointer (some L.X.ea))) := D5.P.cell 6
            have H5 := Lib.hid D5
            have HBB := Lib.hid B5
            clear D5 B5 HD5 HB5 HK5 HC3 HC4 k4 k6 fz3
            cases hn1 : ((n1 : Int) == 0)
            all_goals
              go_wp2
              go_roundg (gk - 1)
              case measure => omega
              case rel => exact ⟨n1, _, k', H5.out, HBB.out, fun h => absurd h.2 (by intro h; cases h), K5⟩
          | false =>
            dsimp only [endV_false]
            by_cases hn1 : n1 = 0
            · subst hn1
              go_wp2
              refine EffPost.intro (HC3.out q4) ?_
              rw [wpSegs]
              intro ι F hne hF
              clear hF
              repeat (quiet_step (fail))
              refine wpQuiet_nil ?_
              clear hne F ι
              go_wp2
              refine EffPost.intro (HC4.out q4 _) ?_
              rw [wpSegs]
              intro ι F hne hF
              clear hF
              repeat (quiet_step (fail))
              refine wpQuiet_nil ?_
              clear hne F ι
              go_upto_region 6 with (fail)
              have D5 := HD5.out .nilIface (.inl rfl)
              have B5 := HB5.out .nilIface
              have K5 := HK5.out .nilIface
              generalize (((w3.drewN q4).setCell ⟨L.Pb, 4, none⟩ (.int .i64 (0 : Nat))).setCell ⟨L.Pb, 6, none⟩ .nilIface) = w5 at D5 B5 K5 ⊢
              have t4 : w5.cell? ⟨L.Pb, 4, none⟩ = some (.int .i64 (0 : Nat)) := D5.P.cell 4
              have t6 : w5.cell? ⟨L.Pb, 6, none⟩ = some .nilIface := D5.P.cell 6
              have H5 := Lib.hid D5
              have HBB := Lib.hid B5
              clear D5 B5 HD5 HB5 HK5 HC3 HC4 k4 k6 fz3
              have hkn := HG4.out (by first | rfl | trivial) (by first | rfl | trivial)
              have hnll : L.nl.length = L.bn.length + 4 := rfl
              have hbn := H5.out.Mr.c2
              have hcl : L.nl.length < c.length := by
                rw [← HCC.out, List.length_append, List.length_append]
                obtain ⟨x0, t', ht, -⟩ := H5.out.bd.t
                rw [ht, List.length_cons]
                omega
              obtain ⟨k1, hk1⟩ : ∃ k1 : Nat, k1 = k' + 1 := ⟨_, rfl⟩
              have hs1 : (k' : Int) + 1 = k1 := by omega
              have hs2 : IntKind.i64.wrap (k1 : Int) = k1 := IntWalk.i64_in _ (by omega)
              have hs3 : IntKind.i64.wrap ((k' : Int) + 1) = k1 := by rw [hs1]; exact hs2
              have HK1 := Lib.hid hk1
              have HNL := Lib.hid hnll
              clear hk1 hnll
              have hE5 := HE.out.keepN K5 (fun x hx => hOx x hx)
              go_wp2_with (fail)
              refine (peek_n L.b L.g (stickySrc L.k L.X) k1 k' w5 c HBB.out (by have := HK1.out; omega) (by have := HK1.out; have := HNL.out; omega) hE5).mono ?_
              rintro e w6 ⟨o2, cap2, k2, rfl, -, -, B6, hk2, -, -, K6⟩
              have D6 := H5.out.keep K6 (fun x hx => by rcases hx with rfl | rfl | rfl; exact H5.out.nP; exact H5.out.nM; exact H5.out.nB)
              have u7 : w6.cell? ⟨L.Pb, 7, none⟩ = some .nilIface := D6.P.cell 7
              have fz6 := D6.P.frozen
              have K56 : Keeps L.own w w6 := K5.trans' (K6.mono (fun x _ h => .inr (.inr (.inr h))))
              have heof6 : w6.cell? ⟨0, 0, none⟩ = some (.iface 203 (.pointer (some L.X.ea))) := (hE5.keep3 K6).laid.eof
              have hq2 := fun (w : World) (v : Value) => run_eql_iface_nil_left (P := Tryz.prog) w 203 v Tryz.underlying93
              have HD6 := Lib.hid D6
              have HB6 := Lib.hid B6
              clear D6 B6 t4 t6 hE5
              go_wp2
              go_quiet (fail)
              go_wp2
              go_roundg (gk - 1)
              case measure => omega
              case rel =>
                refine ⟨0, _, k2, ⟨((HD6.out.P.set 7 _).drewN _).to rfl, (HD6.out.Mr.keep (S := In [L.Pb]) (((Keeps.refl _ w6).setCell (.inl (by simp [In])) _).drewN _) (fun h => by simp [In] at h; exact HD6.out.pM h.symm) (fun h => by simp [In] at h; exact HD6.out.pB h.symm)), HD6.out.nP, HD6.out.nM, HD6.out.nB, HD6.out.pB, HD6.out.mB, HD6.out.bd, HD6.out.safe, HD6.out.safe0, HD6.out.hn, HD6.out.he, HD6.out.hlen⟩, ?_, fun _ => by have := HK1.out; have := HNL.out; omega, (K56.setCell (.inl (.inl rfl)) _).drewN _⟩
                exact HB6.out.keep (S := In [L.Pb]) (((Keeps.refl _ w6).setCell (.inl (by simp [In])) _).drewN _) (fun x hx h => by simp [In] at h; subst h; exact HD6.out.nP hx)
            · have e1 : ((n1 : Int) == 0) = false := by simp; omega
              have e1' : (n1 == 0) = false := by simp; omega
              have HN1 := Lib.hid hn1
              clear hn1
              go_wp2
              refine EffPost.intro (HC3.out q4) ?_
              rw [wpSegs]
              intro ι F hne hF
              clear hF
              repeat (quiet_step (fail))
              refine wpQuiet_nil ?_
              clear hne F ι
              go_wp2
              refine EffPost.intro (HC4.out q4 _) ?_
              rw [wpSegs]
              intro ι F hne hF
              clear hF
              repeat (quiet_step (fail))
              refine wpQuiet_nil ?_
              clear hne F ι
              go_upto_region 6 with (fail)
              have D5 := HD5.out .nilIface (.inl rfl)
              have B5 := HB5.out .nilIface
              have K5 := HK5.out .nilIface
              generalize (((w3.drewN q4).setCell ⟨L.Pb, 4, none⟩ (.int .i64 n1)).setCell ⟨L.Pb, 6, none⟩ .nilIface) = w5 at D5 B5 K5 ⊢
              have t4 : w5.cell? ⟨L.Pb, 4, none⟩ = some (.int .i64 n1) := D5.P.cell 4
              have t6 : w5.cell? ⟨L.Pb, 6, none⟩ = some .nilIface := D5.P.cell 6
              have H5 := Lib.hid D5
              have HBB := Lib.hid B5
              clear D5 B5 HD5 HB5 HK5 HC3 HC4 k4 k6 fz3
              go_wp2
              go_roundg (gk - 1)
              case measure => omega
              case rel => exact ⟨n1, _, k', H5.out, HBB.out, fun h => absurd h.1 HN1.out, K5⟩
        · go_wp2
          go_meet
          exact ⟨0, _, HDr.out, HBf.out.rd, fun _ => rfl, K⟩
      · have e1 : ((n : Int) == 0) = false := by simp; omega
        have e1' : (n == 0) = false := by simp; omega
        have HN := Lib.hid hn
        clear hn hEc
        go_wp2
        go_meet
        exact ⟨n, _, HDr.out, HBf.out.rd, fun h => absurd h HN.out, K⟩
  case rest =>
    obtain ⟨n, err, D, R, hz, K⟩ := hcut
    have p4 : wc.cell? ⟨L.Pb, 4, none⟩ = some (.int .i64 n) := D.P.cell 4
    have p5 : wc.cell? ⟨L.Pb, 5, none⟩ = some (.int .i64 tot) := D.P.cell 5
    have p6 : wc.cell? ⟨L.Pb, 6, none⟩ = some err := D.P.cell 6
    have fz := D.P.frozen
    have hns := D.hn
    have hsl := D.hlen
    have hBd := HDB.out.keep K (fun h => by rcases h with h | h | h | h; exact hdP h; exact hdM h; exact hdB h; exact hND h)
    have HBd := Lib.hid hBd
    have HDc := Lib.hid D
    have HRc := Lib.hid R
    have HZ := Lib.hid hz
    have hEc := HE.out.keepN K (fun x hx => hOx x hx)
    have HEc := Lib.hid hEc
    clear c2 m0 hBd D R hz hEc HD HRd HDB
    by_cases hn : n = 0
    · subst hn
      have herr := HZ.out rfl
      subst herr
      have hs0 : s.length = 0 := by
        rcases HDc.out.he with h | ⟨_, h⟩
        · cases h
        · exact h.symm
      have hs : s = [] := List.length_eq_zero_iff.1 hs0
      have HS := Lib.hid hs
      clear hs hs0 HZ
      go_wp2
      go_quiet (fail)
      go_wp2
      go_ret2
      refine ⟨0, _, rfl, by omega, by omega, .inr ⟨by rw [HS.out]; rfl, rfl⟩, ⟨hl, hm, 0, tot, _, cp, pn, HCP.out, HDc.out.keep (T := No) ((Keeps.refl No wc).drewN _) (fun _ _ h => h), HRc.out.drewN _⟩, ?_, (K.mono (fun x _ h => .inl h)).drewN _⟩
      have := HBd.out.drewN nq
      simpa using this
    · have e1 : ((n : Int) == 0) = false := by simp; omega
      have e1' : (n == 0) = false := by simp; omega
      have hn0 : 0 < n := by omega
      obtain ⟨m, hm9⟩ : ∃ m, m = min len n := ⟨_, rfl⟩
      have hm1 : 0 < m := by omega
      have hm2 : m ≤ len := by omega
      have hm3 : m ≤ n := by omega
      clear hn
      go_upto_if 121 with (fail)
      go_cut [10] (fun s10 wx => s10 = .int .i64 m ∧ wc = wx)
      case first =>
        rcases Nat.lt_or_ge n len with hlt | hge
        · have e2 : decide ((n : Int) < (len : Int)) = true := decide_eq_true (by omega)
          obtain rfl : m = n := by omega
          clear hm9
          go_wp2
          go_meet
          exact ⟨rfl, rfl⟩
        · have e2 : decide ((n : Int) < (len : Int)) = false := decide_eq_false (by omega)
          obtain rfl : m = len := by omega
          clear hm9
          go_wp2
          go_meet
          exact ⟨rfl, rfl⟩
      case rest =>
        obtain ⟨rfl, rfl⟩ := hcut
        have b0 : (0 : Int) ≤ (m : Int) := by omega
        have b1 : (m : Int) ≤ (cap : Int) := by omega
        clear hm9
        go_wp2_with (fail)
        refine (bufRead_any L.b L.g d o m cap (stickySrc L.k L.X) cs wc (s ++ L.nl ++ L.t) HRc.out HBd.out hND hm1 (by omega) (by omega) hcs HEc.out hdN).mono ?_
        rintro e w2 ⟨n2, err2, rfl, h1, h2, h3, R2, B2, K2⟩
        have hcl : s.length + 1 ≤ (s ++ L.nl ++ L.t).length := by
          rw [List.length_append, List.length_append]
          have : L.nl.length = L.bn.length + 4 := rfl
          omega
        have hn2 : 0 < n2 := by
          rcases h3 with ⟨h, _⟩ | ⟨h, _⟩
          · exact h
          · omega
        have hn2s : n2 ≤ s.length := by omega
        have hdr : (s ++ L.nl ++ L.t).drop n2 = s.drop n2 ++ L.nl ++ L.t := by rw [List.append_assoc, List.drop_append_of_le_length hn2s, ← List.append_assoc]
        have htk : (s ++ L.nl ++ L.t).take n2 = s.take n2 := by rw [List.append_assoc, List.take_append_of_le_length hn2s]
        rw [hdr] at R2
        rw [htk] at B2
        have D2 := HDc.out.keep K2 (fun x hx => by
          intro h
          rcases h with h | h
          · rcases hx with rfl | rfl | rfl
            · exact HDc.out.nP h
            · exact HDc.out.nM h
            · exact HDc.out.nB h
          · rcases hx with rfl | rfl | rfl
            · exact hdP h.symm
            · exact hdM h.symm
            · exact hdB h.symm)
        have K12 : Keeps (fun x => L.own x ∨ x = d) w w2 := (K.mono (fun x _ h => .inl h)).trans' (K2.mono (fun x _ h => by
          rcases h with h | h
          · exact .inl (.inr (.inr (.inr h)))
          · exact .inr h))
        obtain ⟨t2, ht2⟩ : ∃ t2 : Nat, t2 = tot + n2 := ⟨_, rfl⟩
        have hs1 : (tot : Int) + n2 = t2 := by omega
        have hs2 : IntKind.i64.wrap (t2 : Int) = t2 := IntWalk.i64_in _ (by omega)
        have hs3 : IntKind.i64.wrap ((tot : Int) + n2) = t2 := by rw [hs1]; exact hs2
        obtain ⟨n3, hn3⟩ : ∃ n3 : Nat, n3 = n - n2 := ⟨_, rfl⟩
        have hd1 : (n : Int) - n2 = n3 := by omega
        have hd2 : IntKind.i64.wrap (n3 : Int) = n3 := IntWalk.i64_in _ (by omega)
        have hd3 : IntKind.i64.wrap ((n : Int) - n2) = n3 := by rw [hd1]; exact hd2
        have HT2 := Lib.hid ht2
        have HN3 := Lib.hid hn3
        have r4 : w2.cell? ⟨L.Pb, 4, none⟩ = some (.int .i64 n) := D2.P.cell 4
        have r5 : w2.cell? ⟨L.Pb, 5, none⟩ = some (.int .i64 tot) := D2.P.cell 5
        have r6 : w2.cell? ⟨L.Pb, 6, none⟩ = some err := D2.P.cell 6
        have fz2 := D2.P.frozen
        have hfin : ∀ q : Nat, PartS L ((((w2.setCell ⟨L.Pb, 5, none⟩ (.int .i64 t2)).setCell ⟨L.Pb, 4, none⟩ (.int .i64 n3))).drewN q) (s.drop n2) ∧ Blk ((((w2.setCell ⟨L.Pb, 5, none⟩ (.int .i64 t2)).setCell ⟨L.Pb, 4, none⟩ (.int .i64 n3))).drewN q) d (cs.take o ++ u8s (s.take n2) ++ cs.drop (o + n2)) 5 ∧
            Keeps (fun x => L.own x ∨ x = d) w ((((w2.setCell ⟨L.Pb, 5, none⟩ (.int .i64 t2)).setCell ⟨L.Pb, 4, none⟩ (.int .i64 n3))).drewN q) := fun q => by
          have kk : Keeps (In [L.Pb]) w2 ((((w2.setCell ⟨L.Pb, 5, none⟩ (.int .i64 t2)).setCell ⟨L.Pb, 4, none⟩ (.int .i64 n3))).drewN q) := (by repeat (first | assumption | exact Keeps.refl _ _ | apply Keeps.drewN | apply Keeps.drew | apply Keeps.alloc | (refine Keeps.setCell ?_ (.inl (by simp [In])) _)))
          refine ⟨⟨hl, hm, n3, t2, err, cp, pn, HCP.out, ⟨(((D2.P.set 5 _).set 4 _).drewN q).to rfl, D2.Mr.keep kk (fun h => by simp [In] at h; exact D2.pM h.symm) (fun h => by simp [In] at h; exact D2.pB h.symm), D2.nP, D2.nM, D2.nB, D2.pB, D2.mB, D2.bd, D2.safe.drop n2 hn2s, fun h => by have := HT2.out; omega, ?_, ?_, ?_⟩, R2.keep kk (fun x hx h => by simp [In] at h; subst h; exact D2.nP hx)⟩, ?_, K12.trans' (kk.mono (fun x _ h => by simp [In] at h; exact .inl (.inl h)))⟩
          · rw [List.length_drop]
            have := HN3.out
            omega
          · rcases D2.he with h | ⟨h, h4⟩
            · exact .inl h
            · refine .inr ⟨h, ?_⟩
              rw [List.length_drop]
              have := HN3.out
              omega
          · rw [List.length_drop]
            have := HT2.out
            omega
          · exact ((B2.set_other (Ne.symm hdP) _).set_other (Ne.symm hdP) _).drewN q
        have HF := Lib.hid hfin
        have HRF := Lib.hid (show n3 = 0 → err = (.iface 203 (.pointer (some L.X.ea))) ∨ err = .nilIface from fun _ => by rcases D2.he with h | ⟨h, _⟩; exact .inr h; exact .inl h)
        have HE2 := Lib.hid (show err = .nilIface ∨ err = (.iface 203 (.pointer (some L.X.ea))) ∧ n = s.length from D2.he)
        clear hfin D2 R2 B2 K2 hdr htk p4 p5 p6 fz ht2 hn3 hcl h3
        cases hn4 : ((n3 : Int) == 0) with
        | true =>
          obtain rfl : n3 = 0 := by simpa using hn4
          clear hn4
          rcases HE2.out with rfl | ⟨rfl, hnl⟩
          · go_wp2
            go_quiet (fail)
            go_wp2
            go_ret2
            obtain ⟨f1, f2, f3⟩ := HF.out nq
            exact ⟨n2, _, rfl, by omega, hn2s, .inl ⟨hn2, rfl⟩, f1, f2, f3⟩
          · have hns2 : n2 = s.length := by have := HN3.out; omega
            have HNS2 := Lib.hid hns2
            clear hns2 hnl
            go_wp2
            go_quiet (fail)
            go_wp2
            go_ret2
            obtain ⟨f1, f2, f3⟩ := HF.out nq
            exact ⟨n2, _, rfl, by omega, hn2s, .inr ⟨HNS2.out, rfl⟩, f1, f2, f3⟩
        | false =>
          go_wp2
          go_ret2
          obtain ⟨f1, f2, f3⟩ := HF.out 0
          exact ⟨n2, _, rfl, by omega, hn2s, .inl ⟨hn2, rfl⟩, f1, f2, f3⟩
end Go.Proofs.YtjbbapodcngnaaaGreatDoor.G
namespace Go.Proofs.YtjbbapodcngnaaaGreatDoor.G
open Go.RowKit Hdr

theorem method_partR (k : Nat) (w : World) : (method 477 259 (.agg #[.pointer (some ⟨k, 0, none⟩)]) "Read").run Tryz.prog w = .ok (273, .agg #[.pointer (some ⟨k, 0, none⟩)]) w := by kernel_rfl
theorem enter_partR (args : Array Value) (w : World) : (callFunc 273 args).run Tryz.prog w = .ok (.enter 273 args) w := by kernel_rfl
theorem method_part (k : Nat) (w : World) : (method 477 172 (.pointer (some ⟨k, 0, none⟩)) "Read").run Tryz.prog w = .ok (258, .pointer (some ⟨k, 0, none⟩)) w := by kernel_rfl
theorem enter_part (args : Array Value) (w : World) : (callFunc 258 args).run Tryz.prog w = .ok (.enter 258 args) w := by kernel_rfl

set_option maxRecDepth 100000 in
theorem partRead2_any (L : PL) {N : Nat} (d o len cap : Nat) (cs : List Value) (w : World) (s : List UInt8) (h : PartS L w s) (E : Env N L.b L.g (stickySrc L.k L.X) w) (hPN : N ≤ L.Pb) (hMN : N ≤ L.M) (hBN : N ≤ L.B0) (hd : Blk w d cs 5) (hnd : ¬ L.own d) (hdN : N ≤ d) (hlen : 0 < len) (hcap : len ≤ cap) (hfit : o + len ≤ cs.length) (hcs : cs.length ≤ 1000000) :
    Calls Tryz.prog 258 #[.pointer (some ⟨L.Pb, 0, none⟩), .slice (some ⟨d, o, none⟩) len cap] w (PrPost L d o len cs s w) := by
  have H := partRead_any L d o len cap cs w s h E hPN hMN hBN hd hnd hdN hlen hcap hfit hcs
  obtain ⟨hl, hm, n0, tot, err0, cp, pn, hcp, D, R⟩ := h
  have c3 : w.cell? ⟨L.Pb, 3, none⟩ = some (.iface 259 (.agg #[.pointer (some ⟨L.Pb, 0, none⟩)])) := D.P.cell 3
  have hme := method_partR L.Pb
  have hen := enter_partR
  clear D R E hd hnd hcp
  go_enter Tryz.func258, Tryz.ntmps258
  go_wp2_with (fail)
  refine H.mono ?_
  rintro e w' ⟨n, err, rfl, h⟩
  go_wp2
  go_ret2
  exact ⟨n, err, rfl, h⟩

theorem PartS.keep {T : Nat → Prop} {L : PL} {w w' : World} {s : List UInt8} (h : PartS L w s) (k : Keeps T w w') (hS : ∀ x, L.own x → ¬ T x) : PartS L w' s := by
  obtain ⟨hl, hm, n0, tot, err0, cp, pn, hcp, D, R⟩ := h
  exact ⟨hl, hm, n0, tot, err0, cp, pn, hcp, D.keep k (fun x hx => hS x (by rcases hx with h | h | h; exact .inl h; exact .inr (.inl h); exact .inr (.inr (.inl h)))), R.keep k (fun x hx => hS x (.inr (.inr (.inr hx))))⟩
/-- A part is a source. -/
def partSrc (L : PL) : Src where
  ea := L.X.ea
  t := 172
  v := .pointer (some ⟨L.Pb, 0, none⟩)
  f := 258
  recv := .pointer (some ⟨L.Pb, 0, none⟩)
  own := L.own
  S := PartS L
  keep := fun h k hS => h.keep k hS
  lt := fun h hx => by
    obtain ⟨hl, hm, n0, tot, err0, cp, pn, hcp, D, R⟩ := h
    rcases hx with rfl | rfl | rfl | hx
    · exact D.P.lt
    · exact D.Mr.B.lt
    · exact D.Mr.D.lt
    · exact R.lt _ hx
  small := fun h => by
    obtain ⟨hl, hm, n0, tot, err0, cp, pn, hcp, D, R⟩ := h
    have := D.hlen
    omega
theorem partSrc_ok {L : PL} {N : Nat} (O : L.X.Ok N) (hP : N ≤ L.Pb) (hM : N ≤ L.M) (hB0 : N ≤ L.B0) (hb : N ≤ L.b) (hg : N ≤ L.g) (hk : N ≤ L.k) : (partSrc L).Ok N where
  meth := method_part L.Pb
  enter := enter_part
  old := fun hx => by
    rcases hx with rfl | rfl | rfl | hx
    · exact hP
    · exact hM
    · exact hB0
    · rcases hx with rfl | rfl | rfl | hx
      · exact hb
      · exact hg
      · exact hk
      · exact O.old hx
  read := fun {w s d o len cap cs} hS La hd hnd hdN hlen hcap hfit hcs => partRead2_any L d o len cap cs w s hS ⟨stickySrc_ok O hk, hb, hg, La⟩ hP hM hB0 hd hnd hdN hlen hcap hfit hcs

/-! ### A new part -/
/-- The blocks of a reader, and one more. -/
def InB (Pb b g : Nat) (X : Src) : Nat → Prop := fun x => x = Pb ∨ InX b g X x

/-- What populateHeaders leaves. -/
def PhPost (M Pb b g : Nat) (X : Src) (ps : List PF) (body : List UInt8) (lo : Nat) (w : World) (e : Ending) (w' : World) : Prop :=
  ∃ hl hm fs, e = .returned .nilIface ∧ Blk w' Pb [hl, hm, .pointer (some ⟨M, 0, none⟩), .nilIface, .int .i64 0, .int .i64 0, .nilIface, .nilIface] 176 ∧ HdrAt w' lo (.agg #[hl, hm]) fs ∧ Tells fs ps ∧ Rd w' b g X body ∧ Keeps (InB Pb b g X) w w'

set_option maxRecDepth 100000 in
set_option maxHeartbeats 1000000 in
theorem populate_any (M Pb b g : Nat) (X : Src) (w : World) (c body : List UInt8) (ps : List PF) (hr : rhd c = some (ps, body)) (hP : Blk w Pb [.slice none 0 0, .map none, .pointer (some ⟨M, 0, none⟩), .nilIface, .int .i64 0, .int .i64 0, .nilIface, .nilIface] 176)
    (hM : w.cell? ⟨M, 0, none⟩ = some (.pointer (some ⟨b, 0, none⟩))) (R : Rd w b g X c) (hc : c ≠ []) (hs : Short c) (hlen : c.length ≤ 1000000) {N : Nat} (E : Env N b g X w) (hnp : ¬ InX b g X Pb) :
    Calls Tryz.prog 162 #[.pointer (some ⟨Pb, 0, none⟩)] w (PhPost M Pb b g X ps body w.heap.size w) := by
  have H := readHeader_any b g X w c R hc hs hlen E
  rw [hr] at H
  have c2 : w.cell? ⟨Pb, 2, none⟩ = some (.pointer (some ⟨M, 0, none⟩)) := hP.cell 2
  have HP := Lib.hid hP
  have hPl := hP.lt
  have hX := R.lt
  clear hr R hs hc hlen E hP
  go_enter Tryz.func162, Tryz.ntmps162
  go_wp2_with (fail)
  refine H.mono ?_
  rintro e w1 ⟨K1, lb, cap, m, fs, rfl, hlo, hnb, hpo, hmap, hfd, htl, R1⟩
  have hH1 : HdrAt w1 w.heap.size (.agg #[.slice (some ⟨lb, 0, none⟩) fs.length cap, .map m]) fs := ⟨lb, cap, m, rfl, hlo, hnb, hpo, hmap, hfd⟩
  have P1 := HP.out.keep K1 hnp
  have HH1 := Lib.hid hH1
  have HP1 := Lib.hid P1
  have HR1 := Lib.hid R1
  have HTL := Lib.hid htl
  have fz1 : ∀ (o : Obj) (i : Nat), (w1.alloc o).frozen? ⟨Pb, i, none⟩ = false := fun o i => (P1.alloc o).frozen i
  have k0 : ∀ o : Obj, (w1.alloc o).cell? ⟨Pb, 0, none⟩ = some (.slice none 0 0) := fun o => (P1.alloc o).cell 0
  have k1 : ∀ o : Obj, (w1.alloc o).cell? ⟨Pb, 1, none⟩ = some (.map none) := fun o => (P1.alloc o).cell 1
  clear hH1 P1 R1 htl hmap hfd hpo hnb hM c2
  go_wp2
  go_ret
  have kk : Keeps (In [Pb]) (w1.alloc (.cells #[.slice (some ⟨lb, 0, none⟩) fs.length cap, .map m] 74)) (((w1.alloc (.cells #[.slice (some ⟨lb, 0, none⟩) fs.length cap, .map m] 74)).setCell ⟨Pb, 0, none⟩ (.slice (some ⟨lb, 0, none⟩) fs.length cap)).setCell ⟨Pb, 1, none⟩ (.map m)) := (by repeat (first | assumption | exact Keeps.refl _ _ | apply Keeps.drewN | apply Keeps.drew | apply Keeps.alloc | (refine Keeps.setCell ?_ (.inl (by simp [In])) _)))
  have ka : Keeps No w1 (w1.alloc (.cells #[.slice (some ⟨lb, 0, none⟩) fs.length cap, .map m] 74)) := (Keeps.refl No w1).alloc _
  refine ⟨_, _, fs, rfl, (((HP1.out.alloc _).set 0 _).set 1 _).to rfl, (HH1.out.up ka (fun _ h => h.elim)).to kk (fun x h => by simp [In] at h; omega) (Nat.le_refl _), HTL.out, (HR1.out.keep_no ka).keep kk (fun x hx h => by simp [In] at h; subst h; exact hnp hx), ?_⟩
  exact ((K1.mono (fun x _ h => .inr h)).trans_no ka).trans' (kk.mono (fun x _ h => by simp [In] at h; exact .inl h))

/-- What newPart leaves. -/
def NpPost (M b g : Nat) (X : Src) (ps : List PF) (body : List UInt8) (w : World) (e : Ending) (w' : World) : Prop :=
  ∃ Pb hl hm fs, e = .returned (.tuple #[.pointer (some ⟨Pb, 0, none⟩), .nilIface]) ∧ w.heap.size ≤ Pb ∧ Blk w' Pb (ptc hl hm M Pb 0 0 .nilIface) 176 ∧ HdrAt w' w.heap.size (.agg #[hl, hm]) fs ∧ Tells fs ps ∧ Rd w' b g X body ∧ Keeps (InX b g X) w w'

set_option maxRecDepth 100000 in
set_option maxHeartbeats 1000000 in
theorem newPart_any (M b g : Nat) (X : Src) (w : World) (c body : List UInt8) (ps : List PF) (hr : rhd c = some (ps, body))
    (hM : w.cell? ⟨M, 0, none⟩ = some (.pointer (some ⟨b, 0, none⟩))) (R : Rd w b g X c) (hc : c ≠ []) (hs : Short c) (hlen : c.length ≤ 1000000) {N : Nat} (E : Env N b g X w) :
    Calls Tryz.prog 126 #[.pointer (some ⟨M, 0, none⟩)] w (NpPost M b g X ps body w) := by
  have hX := R.lt
  have hB0 := Blk.new w [.slice none 0 0, .map none, .pointer (some ⟨M, 0, none⟩), .nilIface, .int .i64 0, .int .i64 0, .nilIface, .nilIface] 176
  have K0 : Keeps No w (w.alloc (.cells #[.slice none 0 0, .map none, .pointer (some ⟨M, 0, none⟩), .nilIface, .int .i64 0, .int .i64 0, .nilIface, .nilIface] 176)) := (Keeps.refl No w).alloc _
  have hsz : (w.alloc (.cells #[.slice none 0 0, .map none, .pointer (some ⟨M, 0, none⟩), .nilIface, .int .i64 0, .int .i64 0, .nilIface, .nilIface] 176)).heap.size = w.heap.size + 1 := by simp
  have hnp : ¬ InX b g X w.heap.size := fun h => by have := hX _ h; omega
  have H := populate_any M w.heap.size b g X _ c body ps hr hB0 (K0.cell hM (fun h => h)) (R.keep_no K0) hc hs hlen (E.keep_no K0) hnp
  have HH := Lib.hid H
  have HSZ := Lib.hid hsz
  have HK0 := Lib.hid K0
  clear hr R hc hs hlen E hB0 H hsz K0
  go_enter Tryz.func126, Tryz.ntmps126
  go_wp2_with (fail)
  refine HH.out.mono ?_
  rintro e w1 ⟨hl, hm, fs, rfl, B1, H1, htl, R1, K1⟩
  have HB1 := Lib.hid B1
  have HH1 := Lib.hid H1
  have HR1 := Lib.hid R1
  have HTL := Lib.hid htl
  have fz1 := B1.frozen
  have k3 : w1.cell? ⟨w.heap.size, 3, none⟩ = some .nilIface := B1.cell 3
  clear B1 H1 htl R1
  go_wp2
  go_ret2
  have kk : Keeps (In [w.heap.size]) w1 (w1.setCell ⟨w.heap.size, 3, none⟩ (.iface 259 (.agg #[.pointer (some ⟨w.heap.size, 0, none⟩)]))) := (by repeat (first | assumption | exact Keeps.refl _ _ | apply Keeps.drewN | apply Keeps.drew | apply Keeps.alloc | (refine Keeps.setCell ?_ (.inl (by simp [In])) _)))
  refine ⟨w.heap.size, hl, hm, fs, rfl, Nat.le_refl _, (HB1.out.set 3 _).to rfl, HH1.out.to kk (fun x h => by simp [In] at h; rw [HSZ.out]; omega) (by rw [HSZ.out]; omega), HTL.out, HR1.out.keep kk (fun x hx h => by simp [In] at h; subst h; exact hnp hx), ?_⟩
  exact ((HK0.out.of_no.trans' K1).trans' (kk.mono (fun x _ h => by simp [In] at h; exact .inl h))).mono (fun x hx h => by
    rcases h with h | h
    · omega
    · exact h)
end Go.Proofs.YtjbbapodcngnaaaGreatDoor.G
namespace Go.Proofs.YtjbbapodcngnaaaGreatDoor.G
open Go.RowKit Hdr

set_option maxRecDepth 100000 in
theorem close_any (L : PL) {N : Nat} (O : (partSrc L).Ok N) (w : World) (s : List UInt8) (h : PartS L w s) (La : Laid N L.X.ea w) (hN : N ≤ w.heap.size) :
    Calls Tryz.prog 122 #[.pointer (some ⟨L.Pb, 0, none⟩)] w fun e w' => e = .returned .nilIface ∧ PartS L w' [] ∧ Keeps L.own w w' := by
  have H := Lib.hid (discardT_any (partSrc L) O w s h La hN)
  clear h La O
  go_enter Tryz.func122, Tryz.ntmps122
  go_wp2_with (fail)
  refine H.out.mono ?_
  rintro e w' ⟨rfl, h, K⟩
  go_wp2
  go_ret
  exact ⟨rfl, h, K⟩

/-- What NextPart leaves, where there is one. -/
def NextPost (M b g k B0 cap pn : Nat) (X : Src) (bn : List UInt8) (ps : List PF) (body : List UInt8) (w : World) (e : Ending) (w' : World) : Prop :=
  ∃ Pb hl hm fs, e = .returned (.tuple #[.pointer (some ⟨Pb, 0, none⟩), .nilIface]) ∧ w.heap.size ≤ Pb ∧ Blk w' Pb (ptc hl hm M Pb 0 0 .nilIface) 176 ∧ MrB w' M b B0 cap (.pointer (some ⟨Pb, 0, none⟩)) (pn + 1) bn ∧
    HdrAt w' w.heap.size (.agg #[hl, hm]) fs ∧ Tells fs ps ∧ Rd w' b g (stickySrc k X) body

/-- A line, ahead of others, is short and has no line feed. -/
theorem line_split {b : List UInt8} (h10 : (10 : UInt8) ∉ b) (r : List UInt8) : b ++ 13 :: 10 :: r = (b ++ [13]) ++ 10 :: r ∧ (10 : UInt8) ∉ b ++ [13] := by
  refine ⟨by simp, ?_⟩
  simp only [List.mem_append, List.mem_singleton, not_or]
  exact ⟨h10, by decide⟩

set_option maxRecDepth 100000 in
set_option maxHeartbeats 4000000 in
theorem next_first (M b g k B0 cap : Nat) (X : Src) (bn : List UInt8) (w : World) (c body : List UInt8) (ps : List PF) (hr : rhd c = some (ps, body)) (hMr : MrB w M b B0 cap (.pointer none) 0 bn) (h10 : (10 : UInt8) ∉ bn) (hbn : bn ≠ [])
    (R : Rd w b g (stickySrc k X) (45 :: 45 :: bn ++ 13 :: 10 :: c)) (hc : c ≠ []) (hs : Short c) (hlen : c.length ≤ 1000000) {N : Nat} (E : Env N b g (stickySrc k X) w) (hMN : N ≤ M) (nM : ¬ InX b g (stickySrc k X) M) (nB : ¬ InX b g (stickySrc k X) B0) (mB : M ≠ B0) :
    Calls Tryz.prog 91 #[.pointer (some ⟨M, 0, none⟩)] w fun e w' => NextPost M b g k B0 cap 0 X bn ps body w e w' ∧ Keeps (fun x => x = M ∨ InX b g (stickySrc k X) x) w w' := by
  obtain ⟨c0, c1, c2, c3, c4, c5, c6⟩ := hMr.cells
  have hds := run_string_of w B0 2 (cap - 2) (45 :: 45 :: bn) (bn.length + 2) (by simp) hMr.da
  have hne : ((⟨(45 :: 45 :: bn).toArray⟩ : ByteArray) == ⟨#[45, 45]⟩) = false := by
    have := str_beq (45 :: 45 :: bn) [45, 45]
    rw [this]
    refine decide_eq_false (fun h => hbn ?_)
    simpa using h
  have hMw := hMr.B.lt
  obtain ⟨hsp, h1013⟩ := line_split (b := 45 :: 45 :: bn) (by simp only [List.mem_cons, not_or]; exact ⟨by decide, by decide, h10⟩) c
  rw [hsp] at R
  have hrs := readSlice_found b g (stickySrc k X) w (45 :: 45 :: bn ++ [13]) c R (by have := hMr.c2; simp; omega) h1013 E
  have HRS := Lib.hid hrs
  have HMr := Lib.hid hMr
  have HR := Lib.hid hr
  have HS := Lib.hid hs
  have HE := Lib.hid E
  have HC := Lib.hid hc
  unfold str at hds
  have hX := R.lt
  clear hrs hMr hr hs E R hsp h1013 hc
  have hbe : bn.isEmpty = false := by cases bn with | nil => exact absurd rfl hbn | cons _ _ => rfl
  have hq2 := fun (w : World) (v : Value) => run_eql_iface_nil_left (P := Tryz.prog) w 203 v Tryz.underlying93
  clear hbn
  go_enter Tryz.func91, Tryz.ntmps91
  go_wp2
  refine wp_loop_rounds 1 ?_
  rw [rounds_succ]
  go_wp2_with (fail)
  refine HRS.out.mono ?_
  rintro e w1 ⟨o, lc, rfl, hlc, hby, R1, K1⟩
  have Mr1 := HMr.out.keep K1 nM nB
  have E1 := HE.out.keep3 K1
  have heof := E1.laid.eof
  have hll : (45 :: 45 :: bn ++ [13] ++ [10]).length = bn.length + 4 := by simp
  have hpre : (45 :: 45 :: bn).isPrefixOf (45 :: 45 :: bn ++ [13] ++ [10]) = true := by rw [List.isPrefixOf_iff_prefix]; exact ⟨[13, 10], by simp⟩
  have hdrop : (45 :: 45 :: bn ++ [13] ++ [10]).drop (bn.length + 2) = [13, 10] := by
    rw [show (45 :: 45 :: bn ++ [13] ++ [10]) = (45 :: 45 :: bn) ++ [13, 10] by simp, List.drop_left' (by simp)]
  generalize hline : (45 :: 45 :: bn ++ [13] ++ [10]) = line at *
  have HLL := Lib.hid hll
  have HPRE := Lib.hid hpre
  have HDROP := Lib.hid hdrop
  have HBY := Lib.hid hby
  have HMr1 := Lib.hid Mr1
  have HR1 := Lib.hid R1
  have HE1 := Lib.hid E1
  obtain ⟨d0, d1, d2, d3, d4, d5, d6⟩ := Mr1.cells
  have fzM := Mr1.B.frozen
  have hmw1 : M < w1.heap.size := Nat.lt_of_lt_of_le hMw K1.size
  clear hline hll hpre hdrop hby Mr1 R1 E1 c0 c1 c2 c3 c4 c5 c6 hds hne HRS HMr
  go_wp2_with (fail)
  refine (delim_any M b B0 cap (.pointer none) 0 bn w1 HMr1.out g o line.length lc line rfl HBY.out hlc (fun _ => by rw [HDROP.out]; exact ⟨⟨by simp, by simp⟩, by simp⟩)).mono ?_
  rintro e w2 ⟨rfl, rfl⟩
  rw [HPRE.out, HDROP.out]
  have K2 : Keeps (In [M]) w2 (w2.setCell ⟨M, 2, none⟩ (.int .i64 1)) := (by repeat (first | assumption | exact Keeps.refl _ _ | apply Keeps.drewN | apply Keeps.drew | apply Keeps.alloc | (refine Keeps.setCell ?_ (.inl (by simp [In])) _)))
  have Mr2 : MrB (w2.setCell ⟨M, 2, none⟩ (.int .i64 1)) M b B0 cap (.pointer none) 1 bn := ⟨(HMr1.out.B.set 2 _).to rfl, HMr1.out.D.keep K2 (fun h => by simp [In] at h; exact mB h.symm), HMr1.out.c1, HMr1.out.c2, by omega⟩
  have R2 := HR1.out.keep K2 (fun x hx h => by simp [In] at h; subst h; exact nM hx)
  have E2 := HE1.out.keepN K2 (fun x h => by simp [In] at h; omega)
  have HMr2 := Lib.hid Mr2
  have HR2 := Lib.hid R2
  have HE2 := Lib.hid E2
  clear Mr2 R2 E2 K2
  go_wp2_with (fail)
  refine (newPart_any M b g (stickySrc k X) _ c body ps HR.out ((HMr2.out.B.cell 0).trans rfl) HR2.out HC.out HS.out hlen HE2.out).mono ?_
  rintro e w3 ⟨Pb, hl, hm, fs, rfl, hPb, B3, H3, htl, R3, K3⟩
  have Mr3 := HMr2.out.keep K3 nM nB
  have k1 : w3.cell? ⟨M, 1, none⟩ = some (.pointer none) := Mr3.B.cell 1
  have fz3 := Mr3.B.frozen
  have HMr3 := Lib.hid Mr3
  have HB3 := Lib.hid B3
  have HH3 := Lib.hid H3
  have HTL := Lib.hid htl
  have HR3 := Lib.hid R3
  have hPbM : Pb ≠ M := fun h => by simp at hPb; omega
  clear Mr3 B3 H3 htl R3 HMr2 HR2
  go_wp2
  go_ret2
  have kk : Keeps (In [M]) w3 (w3.setCell ⟨M, 1, none⟩ (.pointer (some ⟨Pb, 0, none⟩))) := (by repeat (first | assumption | exact Keeps.refl _ _ | apply Keeps.drewN | apply Keeps.drew | apply Keeps.alloc | (refine Keeps.setCell ?_ (.inl (by simp [In])) _)))
  have hsz2 : w2.heap.size = (w2.setCell ⟨M, 2, none⟩ (.int .i64 1)).heap.size := by simp
  have hsz1 := K1.size
  refine ⟨⟨Pb, hl, hm, fs, rfl, by simp at hPb; omega, HB3.out.set_other (Ne.symm hPbM) _, ⟨(HMr3.out.B.set 1 _).to rfl, HMr3.out.D.keep kk (fun h => by simp [In] at h; exact mB h.symm), HMr3.out.c1, HMr3.out.c2, HMr3.out.n1⟩, HH3.out.to kk (fun x h => by simp [In] at h; subst h; simp; exact hmw1) (by simp; omega), HTL.out, HR3.out.keep kk (fun x hx h => by simp [In] at h; subst h; exact nM hx)⟩, ?_⟩
  have k2 : Keeps (In [M]) w2 (w2.setCell ⟨M, 2, none⟩ (.int .i64 1)) := (by repeat (first | assumption | exact Keeps.refl _ _ | apply Keeps.drewN | apply Keeps.drew | apply Keeps.alloc | (refine Keeps.setCell ?_ (.inl (by simp [In])) _)))
  exact (((K1.mono (fun x _ h => .inr h)).trans' (k2.mono (fun x _ h => by simp [In] at h; exact .inl h))).trans' (K3.mono (fun x _ h => .inr h))).trans' (kk.mono (fun x _ h => by simp [In] at h; exact .inl h))

set_option maxRecDepth 100000 in
set_option maxHeartbeats 4000000 in
theorem next_more (L : PL) (w : World) (s c body : List UInt8) (ps : List PF) (hr : rhd c = some (ps, body)) (hc : c ≠ []) (hs : Short c) (hlen : c.length ≤ 1000000) (hP : PartS L w s) (ht : L.t = 13 :: 10 :: c) (h10 : (10 : UInt8) ∉ L.bn) (hbn : L.bn ≠ []) (hpn : 0 < L.pn) (hpn2 : L.pn < 1000)
    {N : Nat} (O : L.X.Ok N) (La : Laid N L.X.ea w) (hN : N ≤ w.heap.size) (hPb : N ≤ L.Pb) (hM : N ≤ L.M) (hB0 : N ≤ L.B0) (hb : N ≤ L.b) (hg : N ≤ L.g) (hk : N ≤ L.k) :
    Calls Tryz.prog 91 #[.pointer (some ⟨L.M, 0, none⟩)] w fun e w' => NextPost L.M L.b L.g L.k L.B0 L.cap L.pn L.X L.bn ps body w e w' ∧ Keeps L.own w w' := by
  have hme := close_any L (partSrc_ok O hPb hM hB0 hb hg hk) w s hP La hN
  have hown : ∀ x, L.own x → x < w.heap.size := fun x hx => (partSrc L).lt hP hx
  obtain ⟨hl0, hm0, n0, tot, err0, cp, pn, ⟨hcp, hpe⟩, D, R⟩ := hP
  subst hcp
  subst hpe
  have c1 : w.cell? ⟨L.M, 1, none⟩ = some (.pointer (some ⟨L.Pb, 0, none⟩)) := D.Mr.B.cell 1
  have HME := Lib.hid hme
  have HO := Lib.hid O
  have HLA := Lib.hid La
  have HT := Lib.hid ht
  have HB10 := Lib.hid h10
  have hMw : L.M < w.heap.size := hown _ (.inr (.inl rfl))
  have hds : ∀ W : World, MrB W L.M L.b L.B0 L.cap (.pointer (some ⟨L.Pb, 0, none⟩)) L.pn L.bn → (convert 85 9 (.slice (some ⟨L.B0, 2, none⟩) (L.bn.length + 2) (L.cap - 2))).run Tryz.prog W = .ok (.string ⟨(45 :: 45 :: L.bn).toArray⟩) W :=
    fun W hW => run_string_of W L.B0 2 (L.cap - 2) (45 :: 45 :: L.bn) (L.bn.length + 2) (by simp) hW.da
  have HDS := Lib.hid hds
  have hbe : L.bn.isEmpty = false := by
    cases hc : L.bn with
    | nil => exact absurd hc hbn
    | cons _ _ => rfl
  have hq2 := fun (w : World) (v : Value) => run_eql_iface_nil_left (P := Tryz.prog) w 203 v Tryz.underlying93
  have hpz : ((L.pn : Int) == 0) = false := by simp; omega
  have hpz' : (L.pn == 0) = false := by simp; omega
  obtain ⟨nM, nB, mB, bc1, bc2⟩ : ¬ InX L.b L.g (stickySrc L.k L.X) L.M ∧ ¬ InX L.b L.g (stickySrc L.k L.X) L.B0 ∧ L.M ≠ L.B0 ∧ L.bn.length + 6 ≤ L.cap ∧ L.bn.length ≤ 1000 := ⟨D.nM, D.nB, D.mB, D.Mr.c1, D.Mr.c2⟩
  have hOx : ∀ x, L.own x → N ≤ x := fun x hx => (partSrc_ok O hPb hM hB0 hb hg hk).old hx
  clear hme D R O La ht h10 hbn hds hpn
  go_enter Tryz.func91, Tryz.ntmps91
  go_wp2_with (fail)
  refine HME.out.mono ?_
  rintro e w1 ⟨rfl, ⟨hl1, hm1, n1, tot1, err1, cp1, pn1, ⟨rfl, rfl⟩, D1, R1⟩, K1⟩
  rw [List.nil_append] at R1
  have hnlt : L.nl ++ L.t = [13] ++ 10 :: (45 :: 45 :: L.bn ++ L.t) := rfl
  rw [hnlt] at R1
  obtain ⟨d0, d1, d2, d3, d4, d5, d6⟩ := D1.Mr.cells
  have hd9 := HDS.out w1 D1.Mr
  have La1 := HLA.out.keep K1 (fun x hx => hOx x hx)
  have E1 : Env N L.b L.g (stickySrc L.k L.X) w1 := ⟨stickySrc_ok HO.out hk, hb, hg, La1⟩
  have hrs := readSlice_found L.b L.g (stickySrc L.k L.X) w1 [13] _ R1 (by simp) (by simp) E1
  have HRS := Lib.hid hrs
  have HD1 := Lib.hid D1.Mr
  have HE1 := Lib.hid E1
  clear hrs D1 E1 La1 R1 hnlt c1 HME HDS HLA
  go_wp2
  refine wp_loop_rounds 2 ?_
  rw [rounds_succ]
  go_wp2_with (fail)
  refine HRS.out.mono ?_
  rintro e w2 ⟨o, lc, rfl, hlc, hby, R2, K2⟩
  have Mr2 := HD1.out.keep K2 nM nB
  have E2 := HE1.out.keep3 K2
  have heof := E2.laid.eof
  have hl2 : ([13] ++ [10] : List UInt8).length = 2 := rfl
  have hll : (2 : Nat) = ([13, 10] : List UInt8).length := rfl
  obtain ⟨f0, f1, f2, f3, f4, f5, f6⟩ := Mr2.cells
  have HMr2 := Lib.hid Mr2
  have HBY := Lib.hid (show BytesAt w2 L.g o [13, 10] from hby)
  have HR2 := Lib.hid R2
  have HE2 := Lib.hid E2
  have HLL := Lib.hid hll
  clear Mr2 hby R2 E2 hll d0 d1 d2 d3 d4 d5 d6 hd9 HRS HD1 HE1
  rw [hl2] at hlc ⊢
  clear hl2
  have hnp : (45 :: 45 :: L.bn).isPrefixOf [13, 10] = false := rfl
  have hnp2 : (45 :: 45 :: (L.bn ++ [45, 45])).isPrefixOf [13, 10] = false := rfl
  have HNP := Lib.hid hnp
  have HNP2 := Lib.hid hnp2
  clear hnp hnp2
  go_wp2_with (fail)
  refine (delim_any L.M L.b L.B0 L.cap _ L.pn L.bn w2 HMr2.out L.g o 2 lc [13, 10] HLL.out HBY.out hlc (fun h => by rw [HNP.out] at h; cases h)).mono ?_
  rintro e w3 ⟨rfl, rfl⟩
  rw [HNP.out]
  go_wp2_with (fail)
  refine (final_any L.M L.b L.B0 L.cap _ L.pn L.bn w3 HMr2.out L.g o 2 lc [13, 10] HLL.out HBY.out hlc (fun h => by rw [HNP2.out] at h; cases h)).mono ?_
  rintro e w4 ⟨rfl, rfl⟩
  rw [HNP2.out]
  go_wp2_with (fail)
  refine (bytesEq_any L.g o 2 lc L.B0 0 2 L.cap [13, 10] [13, 10] rfl rfl w4 HBY.out HMr2.out.nl).mono ?_
  rintro e w5 ⟨rfl, rfl⟩
  go_wp2
  rw [rounds_succ]
  have hsp : 45 :: 45 :: L.bn ++ L.t = (45 :: 45 :: L.bn ++ [13]) ++ 10 :: c := by rw [HT.out]; simp
  have h1013 : (10 : UInt8) ∉ 45 :: 45 :: L.bn ++ [13] := by
    simp only [List.mem_append, List.mem_cons, not_or]
    exact ⟨⟨by decide, by decide, HB10.out⟩, by decide, by simp⟩
  have R5 := HR2.out
  rw [hsp] at R5
  have hrs := readSlice_found L.b L.g (stickySrc L.k L.X) w5 (45 :: 45 :: L.bn ++ [13]) c R5 (by simp; omega) h1013 HE2.out
  have HRS := Lib.hid hrs
  have HR := Lib.hid hr
  have HC := Lib.hid hc
  have HS := Lib.hid hs
  clear hrs R5 h1013 hsp hr hc hs HBY HLL
  go_wp2_with (fail)
  refine HRS.out.mono ?_
  rintro e w6 ⟨o2, lc2, rfl, hlc2, hby2, R6, K6⟩
  have Mr6 := HMr2.out.keep K6 nM nB
  have E6 := HE2.out.keep3 K6
  have heof6 := E6.laid.eof
  clear HRS HMr2 HE2 HR2 f0 f1 f2 f3 f4 f5 f6 heof
  have hll : (45 :: 45 :: L.bn ++ [13] ++ [10]).length = L.bn.length + 4 := by simp
  have hpre : (45 :: 45 :: L.bn).isPrefixOf (45 :: 45 :: L.bn ++ [13] ++ [10]) = true := by rw [List.isPrefixOf_iff_prefix]; exact ⟨[13, 10], by simp⟩
  have hdrop : (45 :: 45 :: L.bn ++ [13] ++ [10]).drop (L.bn.length + 2) = [13, 10] := by
    rw [show (45 :: 45 :: L.bn ++ [13] ++ [10]) = (45 :: 45 :: L.bn) ++ [13, 10] by simp, List.drop_left' (by simp)]
  generalize hline : (45 :: 45 :: L.bn ++ [13] ++ [10]) = line at *
  have HPRE := Lib.hid hpre
  have HDROP := Lib.hid hdrop
  have HBY := Lib.hid hby2
  have HMr1 := Lib.hid Mr6
  have HR1 := Lib.hid R6
  have HE1 := Lib.hid E6
  obtain ⟨d0, d1, d2, d3, d4, d5, d6⟩ := Mr6.cells
  have fzM := Mr6.B.frozen
  have hmw1 : L.M < w6.heap.size := Mr6.B.lt
  clear hline hll hpre hdrop hby2 Mr6 R6 E6
  go_wp2_with (fail)
  refine (delim_any L.M L.b L.B0 L.cap _ L.pn L.bn w6 HMr1.out L.g o2 line.length lc2 line rfl HBY.out hlc2 (fun _ => by rw [HDROP.out]; exact ⟨⟨by simp, by simp⟩, by simp⟩)).mono ?_
  rintro e w7 ⟨rfl, rfl⟩
  rw [HPRE.out, HDROP.out]
  obtain ⟨p1, hp1⟩ : ∃ p1 : Nat, p1 = L.pn + 1 := ⟨_, rfl⟩
  have hs1 : (L.pn : Int) + 1 = p1 := by omega
  have hs2 : IntKind.i64.wrap (p1 : Int) = p1 := IntWalk.i64_in _ (by omega)
  have hs3 : IntKind.i64.wrap ((L.pn : Int) + 1) = p1 := by rw [hs1]; exact hs2
  have HP1 := Lib.hid hp1
  have K2' : Keeps (In [L.M]) w7 (w7.setCell ⟨L.M, 2, none⟩ (.int .i64 p1)) := (by repeat (first | assumption | exact Keeps.refl _ _ | apply Keeps.drewN | apply Keeps.drew | apply Keeps.alloc | (refine Keeps.setCell ?_ (.inl (by simp [In])) _)))
  have Mr2 : MrB (w7.setCell ⟨L.M, 2, none⟩ (.int .i64 p1)) L.M L.b L.B0 L.cap (.pointer (some ⟨L.Pb, 0, none⟩)) p1 L.bn := ⟨(HMr1.out.B.set 2 _).to rfl, HMr1.out.D.keep K2' (fun h => by simp [In] at h; exact mB h.symm), bc1, bc2, by omega⟩
  have R2' := HR1.out.keep K2' (fun x hx h => by simp [In] at h; subst h; exact nM hx)
  have E2' := HE1.out.keepN K2' (fun x h => by simp [In] at h; omega)
  have HMr2 := Lib.hid Mr2
  have HR2 := Lib.hid R2'
  have HE2 := Lib.hid E2'
  clear Mr2 R2' E2' hp1
  go_wp2_with (fail)
  refine (newPart_any L.M L.b L.g (stickySrc L.k L.X) _ c body ps HR.out ((HMr2.out.B.cell 0).trans rfl) HR2.out HC.out HS.out hlen HE2.out).mono ?_
  rintro e w8 ⟨Pb, hl, hm, fs, rfl, hPb', B3, H3, htl, R3, K3⟩
  have Mr3 := HMr2.out.keep K3 nM nB
  have k1 : w8.cell? ⟨L.M, 1, none⟩ = some (.pointer (some ⟨L.Pb, 0, none⟩)) := Mr3.B.cell 1
  have fz3 := Mr3.B.frozen
  have HMr3 := Lib.hid Mr3
  have HB3 := Lib.hid B3
  have HH3 := Lib.hid H3
  have HTL := Lib.hid htl
  have HR3 := Lib.hid R3
  have hPbM : Pb ≠ L.M := fun h => by simp at hPb'; omega
  clear Mr3 B3 H3 htl R3 HMr2 HR2 HMr1 HR1 d0 d1 d2 d3 d4 d5 d6 fzM
  go_wp2
  go_ret2
  have kk : Keeps (In [L.M]) w8 (w8.setCell ⟨L.M, 1, none⟩ (.pointer (some ⟨Pb, 0, none⟩))) := (by repeat (first | assumption | exact Keeps.refl _ _ | apply Keeps.drewN | apply Keeps.drew | apply Keeps.alloc | (refine Keeps.setCell ?_ (.inl (by simp [In])) _)))
  have hz1 := K1.size
  have hz2 := K2.size
  have hz6 := K6.size
  have hsz7 : (w7.setCell ⟨L.M, 2, none⟩ (.int .i64 p1)).heap.size = w7.heap.size := by simp
  rw [hsz7] at hPb'
  refine ⟨⟨Pb, hl, hm, fs, rfl, by omega, HB3.out.set_other (Ne.symm hPbM) _, by rw [← HP1.out]; exact ⟨(HMr3.out.B.set 1 _).to rfl, HMr3.out.D.keep kk (fun h => by simp [In] at h; exact mB h.symm), bc1, bc2, HMr3.out.n1⟩, HH3.out.to kk (fun x h => by simp [In] at h; subst h; rw [hsz7]; exact hmw1) (by rw [hsz7]; omega), HTL.out, HR3.out.keep kk (fun x hx h => by simp [In] at h; subst h; exact nM hx)⟩, ?_⟩
  have q1 : Keeps L.own w w5 := K1.trans' (K2.mono (fun x _ h => .inr (.inr (.inr h))))
  have q2 : Keeps L.own w w7 := q1.trans' (K6.mono (fun x _ h => .inr (.inr (.inr h))))
  have q3 := q2.trans' (K2'.mono (fun x _ h => by simp [In] at h; exact .inr (.inl h)))
  have q4 := q3.trans' (K3.mono (fun x _ h => .inr (.inr (.inr h))))
  exact q4.trans' (kk.mono (fun x _ h => by simp [In] at h; exact .inr (.inl h)))

theorem Rd.src {w : World} {b g k : Nat} {X : Src} {c : List UInt8} (h : Rd w b g (stickySrc k X) c) : ∃ s, X.S w s := by
  obtain ⟨r, q, s, err, lb, lr, data, h, hr⟩ := h
  obtain ⟨err, h1, h2, h3⟩ := h.S
  exact ⟨_, h2⟩

set_option maxRecDepth 100000 in
set_option maxHeartbeats 4000000 in
theorem next_end (L : PL) (w : World) (s : List UInt8) (hP : PartS L w s) (ht : L.t = [45, 45, 13, 10]) (h10 : (10 : UInt8) ∉ L.bn) (hbn : L.bn ≠ []) (hpn : 0 < L.pn) (hpn2 : L.pn < 1000)
    {N : Nat} (O : L.X.Ok N) (La : Laid N L.X.ea w) (hN : N ≤ w.heap.size) (hPb : N ≤ L.Pb) (hM : N ≤ L.M) (hB0 : N ≤ L.B0) (hb : N ≤ L.b) (hg : N ≤ L.g) (hk : N ≤ L.k) :
    Calls Tryz.prog 91 #[.pointer (some ⟨L.M, 0, none⟩)] w fun e w' => e = .returned (.tuple #[.pointer none, (.iface 203 (.pointer (some L.X.ea)))]) ∧ (∃ s', L.X.S w' s') ∧ Keeps L.own w w' := by
  have hme := close_any L (partSrc_ok O hPb hM hB0 hb hg hk) w s hP La hN
  have hown : ∀ x, L.own x → x < w.heap.size := fun x hx => (partSrc L).lt hP hx
  obtain ⟨hl0, hm0, n0, tot, err0, cp, pn, ⟨hcp, hpe⟩, D, R⟩ := hP
  subst hcp
  subst hpe
  have c1 : w.cell? ⟨L.M, 1, none⟩ = some (.pointer (some ⟨L.Pb, 0, none⟩)) := D.Mr.B.cell 1
  have HME := Lib.hid hme
  have HO := Lib.hid O
  have HLA := Lib.hid La
  have HT := Lib.hid ht
  have HB10 := Lib.hid h10
  have hMw : L.M < w.heap.size := hown _ (.inr (.inl rfl))
  have hds : ∀ W : World, MrB W L.M L.b L.B0 L.cap (.pointer (some ⟨L.Pb, 0, none⟩)) L.pn L.bn → (convert 85 9 (.slice (some ⟨L.B0, 2, none⟩) (L.bn.length + 2) (L.cap - 2))).run Tryz.prog W = .ok (.string ⟨(45 :: 45 :: L.bn).toArray⟩) W :=
    fun W hW => run_string_of W L.B0 2 (L.cap - 2) (45 :: 45 :: L.bn) (L.bn.length + 2) (by simp) hW.da
  have HDS := Lib.hid hds
  have hbe : L.bn.isEmpty = false := by
    cases hc : L.bn with
    | nil => exact absurd hc hbn
    | cons _ _ => rfl
  have hq2 := fun (w : World) (v : Value) => run_eql_iface_nil_left (P := Tryz.prog) w 203 v Tryz.underlying93
  have hpz : ((L.pn : Int) == 0) = false := by simp; omega
  have hpz' : (L.pn == 0) = false := by simp; omega
  obtain ⟨nM, nB, mB, bc1, bc2⟩ : ¬ InX L.b L.g (stickySrc L.k L.X) L.M ∧ ¬ InX L.b L.g (stickySrc L.k L.X) L.B0 ∧ L.M ≠ L.B0 ∧ L.bn.length + 6 ≤ L.cap ∧ L.bn.length ≤ 1000 := ⟨D.nM, D.nB, D.mB, D.Mr.c1, D.Mr.c2⟩
  have hOx : ∀ x, L.own x → N ≤ x := fun x hx => (partSrc_ok O hPb hM hB0 hb hg hk).old hx
  clear hme D R O La ht h10 hbn hds hpn
  go_enter Tryz.func91, Tryz.ntmps91
  go_wp2_with (fail)
  refine HME.out.mono ?_
  rintro e w1 ⟨rfl, ⟨hl1, hm1, n1, tot1, err1, cp1, pn1, ⟨rfl, rfl⟩, D1, R1⟩, K1⟩
  rw [List.nil_append] at R1
  have hnlt : L.nl ++ L.t = [13] ++ 10 :: (45 :: 45 :: L.bn ++ L.t) := rfl
  rw [hnlt] at R1
  obtain ⟨d0, d1, d2, d3, d4, d5, d6⟩ := D1.Mr.cells
  have hd9 := HDS.out w1 D1.Mr
  have La1 := HLA.out.keep K1 (fun x hx => hOx x hx)
  have E1 : Env N L.b L.g (stickySrc L.k L.X) w1 := ⟨stickySrc_ok HO.out hk, hb, hg, La1⟩
  have hrs := readSlice_found L.b L.g (stickySrc L.k L.X) w1 [13] _ R1 (by simp) (by simp) E1
  have HRS := Lib.hid hrs
  have HD1 := Lib.hid D1.Mr
  have HE1 := Lib.hid E1
  clear hrs D1 E1 La1 R1 hnlt c1 HME HDS HLA
  go_wp2
  refine wp_loop_rounds 2 ?_
  rw [rounds_succ]
  go_wp2_with (fail)
  refine HRS.out.mono ?_
  rintro e w2 ⟨o, lc, rfl, hlc, hby, R2, K2⟩
  have Mr2 := HD1.out.keep K2 nM nB
  have E2 := HE1.out.keep3 K2
  have heof := E2.laid.eof
  have hl2 : ([13] ++ [10] : List UInt8).length = 2 := rfl
  have hll : (2 : Nat) = ([13, 10] : List UInt8).length := rfl
  obtain ⟨f0, f1, f2, f3, f4, f5, f6⟩ := Mr2.cells
  have HMr2 := Lib.hid Mr2
  have HBY := Lib.hid (show BytesAt w2 L.g o [13, 10] from hby)
  have HR2 := Lib.hid R2
  have HE2 := Lib.hid E2
  have HLL := Lib.hid hll
  clear Mr2 hby R2 E2 hll d0 d1 d2 d3 d4 d5 d6 hd9 HRS HD1 HE1
  rw [hl2] at hlc ⊢
  clear hl2
  have hnp : (45 :: 45 :: L.bn).isPrefixOf [13, 10] = false := rfl
  have hnp2 : (45 :: 45 :: (L.bn ++ [45, 45])).isPrefixOf [13, 10] = false := rfl
  have HNP := Lib.hid hnp
  have HNP2 := Lib.hid hnp2
  clear hnp hnp2
  go_wp2_with (fail)
  refine (delim_any L.M L.b L.B0 L.cap _ L.pn L.bn w2 HMr2.out L.g o 2 lc [13, 10] HLL.out HBY.out hlc (fun h => by rw [HNP.out] at h; cases h)).mono ?_
  rintro e w3 ⟨rfl, rfl⟩
  rw [HNP.out]
  go_wp2_with (fail)
  refine (final_any L.M L.b L.B0 L.cap _ L.pn L.bn w3 HMr2.out L.g o 2 lc [13, 10] HLL.out HBY.out hlc (fun h => by rw [HNP2.out] at h; cases h)).mono ?_
  rintro e w4 ⟨rfl, rfl⟩
  rw [HNP2.out]
  go_wp2_with (fail)
  refine (bytesEq_any L.g o 2 lc L.B0 0 2 L.cap [13, 10] [13, 10] rfl rfl w4 HBY.out HMr2.out.nl).mono ?_
  rintro e w5 ⟨rfl, rfl⟩
  go_wp2
  rw [rounds_succ]
  have hsp : 45 :: 45 :: L.bn ++ L.t = (45 :: 45 :: (L.bn ++ [45, 45]) ++ [13]) ++ 10 :: [] := by rw [HT.out]; simp
  have h1013 : (10 : UInt8) ∉ 45 :: 45 :: (L.bn ++ [45, 45]) ++ [13] := by
    simp only [List.mem_append, List.mem_cons, not_or]
    exact ⟨⟨by decide, by decide, HB10.out, by decide, by decide, by simp⟩, by decide, by simp⟩
  have R5 := HR2.out
  rw [hsp] at R5
  have hrs := readSlice_found L.b L.g (stickySrc L.k L.X) w5 (45 :: 45 :: (L.bn ++ [45, 45]) ++ [13]) [] R5 (by simp; omega) h1013 HE2.out
  have HRS := Lib.hid hrs
  clear hrs R5 h1013 hsp HBY HLL
  go_wp2_with (fail)
  refine HRS.out.mono ?_
  rintro e w6 ⟨o2, lc2, rfl, hlc2, hby2, R6, K6⟩
  have Mr6 := HMr2.out.keep K6 nM nB
  have E6 := HE2.out.keep3 K6
  have heof6 := E6.laid.eof
  clear HRS HMr2 HE2 HR2 f0 f1 f2 f3 f4 f5 f6 heof
  have hpre : (45 :: 45 :: L.bn).isPrefixOf (45 :: 45 :: (L.bn ++ [45, 45]) ++ [13] ++ [10]) = true := by rw [List.isPrefixOf_iff_prefix]; exact ⟨[45, 45, 13, 10], by simp⟩
  have hdrop : (45 :: 45 :: (L.bn ++ [45, 45]) ++ [13] ++ [10]).drop (L.bn.length + 2) = [45, 45, 13, 10] := by
    rw [show (45 :: 45 :: (L.bn ++ [45, 45]) ++ [13] ++ [10]) = (45 :: 45 :: L.bn) ++ [45, 45, 13, 10] by simp, List.drop_left' (by simp)]
  have hpre2 : (45 :: 45 :: (L.bn ++ [45, 45])).isPrefixOf (45 :: 45 :: (L.bn ++ [45, 45]) ++ [13] ++ [10]) = true := by rw [List.isPrefixOf_iff_prefix]; exact ⟨[13, 10], by simp⟩
  have hdrop2 : (45 :: 45 :: (L.bn ++ [45, 45]) ++ [13] ++ [10]).drop (L.bn.length + 4) = [13, 10] := by
    rw [show (45 :: 45 :: (L.bn ++ [45, 45]) ++ [13] ++ [10]) = (45 :: 45 :: (L.bn ++ [45, 45])) ++ [13, 10] by simp, List.drop_left' (by simp)]
  generalize hline : (45 :: 45 :: (L.bn ++ [45, 45]) ++ [13] ++ [10]) = line at *
  have HPRE := Lib.hid hpre
  have HDROP := Lib.hid hdrop
  have HPRE2 := Lib.hid hpre2
  have HDROP2 := Lib.hid hdrop2
  have HBY := Lib.hid hby2
  have HMr1 := Lib.hid Mr6
  have HR6 := Lib.hid R6
  clear hline hpre hdrop hpre2 hdrop2 hby2 Mr6 R6 E6
  go_wp2_with (fail)
  refine (delim_any L.M L.b L.B0 L.cap _ L.pn L.bn w6 HMr1.out L.g o2 line.length lc2 line rfl HBY.out hlc2 (fun _ => by rw [HDROP.out]; exact ⟨⟨by simp, by simp⟩, by simp⟩)).mono ?_
  rintro e w7 ⟨rfl, rfl⟩
  rw [HPRE.out, HDROP.out]
  go_wp2_with (fail)
  refine (final_any L.M L.b L.B0 L.cap _ L.pn L.bn w7 HMr1.out L.g o2 line.length lc2 line rfl HBY.out hlc2 (fun _ => by rw [HDROP2.out]; exact ⟨by simp, by simp⟩)).mono ?_
  rintro e w8 ⟨rfl, rfl⟩
  rw [HPRE2.out, HDROP2.out]
  go_wp2
  go_quiet (fail)
  go_wp2
  go_ret2
  have q1 : Keeps L.own w w5 := K1.trans' (K2.mono (fun x _ h => .inr (.inr (.inr h))))
  have q2 : Keeps L.own w w8 := q1.trans' (K6.mono (fun x _ h => .inr (.inr (.inr h))))
  exact ⟨rfl, (HR6.out.drewN _).src, q2.drewN _⟩
end Go.Proofs.YtjbbapodcngnaaaGreatDoor.G
namespace Go.Proofs.YtjbbapodcngnaaaGreatDoor
open Go.RowKit Hdr

/-- A sign of ASCII that is no capital letter. -/
def lowN (n : Nat) : Prop := n < 128 ∧ (n < 65 ∨ 90 < n)

set_option maxRecDepth 100000 in
set_option maxHeartbeats 1000000 in
theorem toLower_any (l : List UInt8) (w : World) (h : ∀ c ∈ l, lowN c.toNat) (hlen : l.length ≤ 1000000000) :
    Calls Tryz.prog 112 #[str l] w fun e w' => e = .returned (str l) ∧ w' = w := by
  have H := Lib.hid h
  have hls := str_len l
  clear h
  go_enter Tryz.func112, Tryz.ntmps112
  go_wp2
  go_loopg [3, 4, 5] l.length (fun n s3 s4 s5 wr => ∃ j : Nat, s3 = .bool true ∧ s4 = .bool false ∧ s5 = .int .i64 j ∧ j + n = l.length ∧ w = wr)
  case atStart => exact ⟨0, rfl, rfl, rfl, by omega, rfl⟩
  case round =>
    obtain ⟨j, rfl, rfl, rfl, hj, rfl⟩ := hrel
    by_cases hlt : j < l.length
    · have hg := str_get l j hlt
      have hc := H.out l[j] (List.getElem_mem hlt)
      unfold lowN at hc
      have hw1 : IntKind.i64.wrap ((j : Int) + 1) = (j : Int) + 1 := IntWalk.i64_in _ (by omega)
      have b1 : (j : Int) < (l.length : Int) := by omega
      have e1 : decide ((j : Int) < (l.length : Int)) = true := decide_eq_true (by omega)
      generalize l[j] = c at *
      have e2 : decide ((128 : Int) ≤ (c.toNat : Int)) = false := decide_eq_false (by omega)
      rcases Nat.lt_or_ge c.toNat 65 with h65 | h65
      · have e3 : decide ((65 : Int) ≤ (c.toNat : Int)) = false := decide_eq_false (by omega)
        clear hc
        go_wp2
        go_roundg (gk - 1)
        case measure => omega
        case rel => exact ⟨j + 1, rfl, rfl, by simp, by omega, rfl⟩
      · have e3 : decide ((65 : Int) ≤ (c.toNat : Int)) = true := decide_eq_true (by omega)
        have e4 : decide ((c.toNat : Int) ≤ 90) = false := decide_eq_false (by omega)
        clear hc
        go_wp2
        go_roundg (gk - 1)
        case measure => omega
        case rel => exact ⟨j + 1, rfl, rfl, by simp, by omega, rfl⟩
    · have e1 : decide ((j : Int) < (l.length : Int)) = false := decide_eq_false (by omega)
      go_wp2
      go_ret
      exact ⟨rfl, rfl⟩

/-- The library's table of blanks has none of these. -/
def Tab (w : World) : Prop := ∀ n : Nat, 48 ≤ n → n ≤ 122 → w.cell? ⟨4, n, none⟩ = some (.int .u8 0)
theorem Tab.keep {S : Nat → Prop} {w w' : World} (h : Tab w) (k : Keeps S w w') (hS : ∀ x, S x → 4 < x) : Tab w' := fun n h1 h2 => k.cell (h n h1 h2) (fun hs => by have := hS _ hs; simp at this)
theorem Tab.keep_no {w w' : World} (h : Tab w) (k : Keeps No w w') : Tab w' := h.keep k (fun _ h => h.elim)

set_option maxRecDepth 100000 in
set_option maxHeartbeats 1000000 in
theorem trimSpace_any (x y : UInt8) (l m : List UInt8) (he : x :: l = m ++ [y]) (hx : t7N x.toNat) (hy : t7N y.toNat) (w : World) (hT : Tab w) (hlen : l.length ≤ 1000000) :
    Calls Tryz.prog 111 #[str (x :: l)] w fun e w' => e = .returned (str (x :: l)) ∧ Keeps No w w' := by
  have hls := str_len (x :: l)
  rw [List.length_cons] at hls
  have hml : m.length = l.length := by have := congrArg List.length he; simp at this; omega
  unfold t7N at hx hy
  have hgl : (x :: l)[l.length]? = some y := by rw [he, ← hml]; simp
  obtain ⟨cap, W, hcv, hrow, K, hsz⟩ := run_bytes_of w (x :: l)
  have hrc := hrow.bytes.cell (i := 0) (by simp)
  rw [List.getElem_cons_zero, Nat.add_zero] at hrc
  unfold byt at hrc
  have e1 : decide ((128 : Int) ≤ (x.toNat : Int)) = false := decide_eq_false (by omega)
  have e2 : decide ((128 : Int) ≤ (y.toNat : Int)) = false := decide_eq_false (by omega)
  have hc0 := str_cut (x :: l) 0 (l.length + 1)
  rw [show ((x :: l).drop 0).take (l.length + 1 - 0) = x :: l by simp] at hc0
  have hT0 := hT.keep_no K
  have tx := hT0 x.toNat (by omega) (by omega)
  have ty := hT0 y.toNat (by omega) (by omega)
  have b1 : (x.toNat : Int) < 256 := by omega
  have b2 : (y.toNat : Int) < 256 := by omega
  have e3 : decide ((0 : Int) < (l.length : Int) + 1) = true := decide_eq_true (by omega)
  have e4 : decide ((0 : Int) ≤ (l.length : Int)) = true := decide_eq_true (by omega)
  have hw1 : IntKind.i64.wrap ((l.length : Int) + 1) = (l.length : Int) + 1 := IntWalk.i64_in _ (by omega)
  have hw2 : IntKind.i64.wrap (l.length : Int) = (l.length : Int) := IntWalk.i64_in _ (by omega)
  unfold str at hcv ⊢
  clear hT hT0 he hml hx hy hrow hsz
  have hsl : (x :: l).length = l.length + 1 := rfl
  generalize hxl : (x :: l) = s at *
  clear hxl
  have hg9 := str_get_of hgl (by rw [str_len]; omega)
  clear hgl
  rw [hsl] at hcv
  go_enter Tryz.func111, Tryz.ntmps111
  go_wp2
  refine wp_loop_rounds 1 ?_
  rw [rounds_succ]
  go_wp2
  refine wp_loop_rounds 1 ?_
  rw [rounds_succ]
  go_wp2
  go_ret
  exact ⟨rfl, K⟩
end Go.Proofs.YtjbbapodcngnaaaGreatDoor
namespace Go.Proofs.YtjbbapodcngnaaaGreatDoor
open Go.RowKit Hdr

set_option maxRecDepth 100000 in
theorem space_no (n : Nat) (w : World) (h : 33 ≤ n ∧ n ≤ 126) :
    Calls Tryz.prog 154 #[.int .i32 n] w fun e w' => e = .returned (.bool false) ∧ w' = w := by
  have key : ∀ k : Nat, ¬ (33 ≤ k ∧ k ≤ 126) → ((n : Int) == (k : Int)) = false := fun k hk => by
    rw [beq_eq_false_iff_ne]
    intro e
    have : n = k := by omega
    subst this
    exact hk h
  have k1 : ((n : Int) == 9) = false := key 9 (by decide)
  have k2 : ((n : Int) == 10) = false := key 10 (by decide)
  have k3 : ((n : Int) == 11) = false := key 11 (by decide)
  have k4 : ((n : Int) == 12) = false := key 12 (by decide)
  have k5 : ((n : Int) == 13) = false := key 13 (by decide)
  have k6 : ((n : Int) == 32) = false := key 32 (by decide)
  have k7 : ((n : Int) == 133) = false := key 133 (by decide)
  have k8 : ((n : Int) == 160) = false := key 160 (by decide)
  have k9 : ((n : Int) == 5760) = false := key 5760 (by decide)
  have k10 : ((n : Int) == 8232) = false := key 8232 (by decide)
  have k11 : ((n : Int) == 8233) = false := key 8233 (by decide)
  have k12 : ((n : Int) == 8239) = false := key 8239 (by decide)
  have k13 : ((n : Int) == 8287) = false := key 8287 (by decide)
  have k14 : ((n : Int) == 12288) = false := key 12288 (by decide)
  have k15 : decide ((8192 : Int) ≤ (n : Int)) = false := decide_eq_false (by omega)
  clear key h
  go_enter Tryz.func154, Tryz.ntmps154
  go_wp2
  go_ret
  exact ⟨rfl, rfl⟩

set_option maxRecDepth 100000 in
theorem space_yes (w : World) :
    Calls Tryz.prog 154 #[.int .i32 32] w fun e w' => e = .returned (.bool true) ∧ w' = w := by
  go_enter Tryz.func154, Tryz.ntmps154
  go_wp2
  go_ret
  exact ⟨rfl, rfl⟩

set_option maxRecDepth 100000 in
set_option maxHeartbeats 1000000 in
theorem indexFunc_0 (x : UInt8) (t : List UInt8) (w : World) (hx : 33 ≤ x.toNat ∧ x.toNat ≤ 126) :
    Calls Tryz.prog 197 #[str (x :: t), .func (.func 154) #[] #[], .bool false] w fun e w' => e = .returned (.int .i64 0) ∧ Keeps No w w' := by
  have hS := fun w => space_no x.toNat w hx
  have hx128 : x.toNat < 128 := by omega
  have hsz : 0 < (⟨(x :: t).toArray⟩ : ByteArray).size := by rw [str_len, List.length_cons]; omega
  have hd : Utf8.decode ⟨(x :: t).toArray⟩ 0 = (x.toNat, 1) := by rw [decode_ascii _ 0 hsz hx128]; rfl
  generalize x :: t = s at *
  have HS := Lib.hid hS
  clear hS
  go_enter Tryz.func197, Tryz.ntmps197
  go_wp2
  have hI0 := ItS.new w ⟨s.toArray⟩
  have hK0 := iter_keeps w ⟨s.toArray⟩ 0
  generalize w.iter ⟨s.toArray⟩ 0 = w0 at *
  refine wp_loop_rounds 1 ?_
  rw [rounds_succ]
  have hnx := fun ty => run_next_at w0 w.heap.size ⟨s.toArray⟩ 0 ty hI0 hsz
  rw [hd] at hnx
  have K1 := setM_keeps w0 w.heap.size (.stringIter ⟨s.toArray⟩ (0 + (x.toNat, 1).2))
  generalize hw1 : setM w0 w.heap.size (.stringIter ⟨s.toArray⟩ (0 + (x.toNat, 1).2)) = w1 at *
  clear hw1
  go_wp2_with (fail)
  refine (HS.out w1).mono ?_
  rintro e w2 ⟨rfl, rfl⟩
  go_wp2
  go_ret
  exact ⟨rfl, (hK0.of_no (T := In [w.heap.size]) |>.trans' K1).mono (fun i hi h => by simp [In] at h; omega)⟩

set_option maxRecDepth 100000 in
set_option maxHeartbeats 1000000 in
theorem indexFunc_1 (x : UInt8) (t : List UInt8) (w : World) (hx : 33 ≤ x.toNat ∧ x.toNat ≤ 126) :
    Calls Tryz.prog 197 #[str (32 :: x :: t), .func (.func 154) #[] #[], .bool false] w fun e w' => e = .returned (.int .i64 1) ∧ Keeps No w w' := by
  have hS := fun w => space_no x.toNat w hx
  have hx128 : x.toNat < 128 := by omega
  have hsz : 0 < (⟨(32 :: x :: t).toArray⟩ : ByteArray).size := by rw [str_len, List.length_cons]; omega
  have hsz1 : 1 < (⟨(32 :: x :: t).toArray⟩ : ByteArray).size := by rw [str_len, List.length_cons, List.length_cons]; omega
  have hd : Utf8.decode ⟨(32 :: x :: t).toArray⟩ 0 = (32, 1) := by rw [decode_ascii _ 0 hsz (by show (32 : UInt8).toNat < 128; decide)]; rfl
  have hd1 : Utf8.decode ⟨(32 :: x :: t).toArray⟩ 1 = (x.toNat, 1) := by rw [decode_ascii _ 1 hsz1 hx128]; rfl
  generalize 32 :: x :: t = s at *
  have HS := Lib.hid hS
  clear hS
  go_enter Tryz.func197, Tryz.ntmps197
  go_wp2
  have hI0 := ItS.new w ⟨s.toArray⟩
  have hK0 := iter_keeps w ⟨s.toArray⟩ 0
  generalize w.iter ⟨s.toArray⟩ 0 = w0 at *
  refine wp_loop_rounds 2 ?_
  rw [rounds_succ]
  have hnx := fun ty => run_next_at w0 w.heap.size ⟨s.toArray⟩ 0 ty hI0 hsz
  rw [hd] at hnx
  have K1 := setM_keeps w0 w.heap.size (.stringIter ⟨s.toArray⟩ (0 + ((32 : Nat), 1).2))
  have hI1 := hI0.set (0 + ((32 : Nat), 1).2)
  generalize hw1 : setM w0 w.heap.size (.stringIter ⟨s.toArray⟩ (0 + ((32 : Nat), 1).2)) = w1 at *
  have HI1 := Lib.hid hI1
  clear hw1 hI0 hI1
  go_wp2_with (fail)
  refine (space_yes w1).mono ?_
  rintro e w2 ⟨rfl, rfl⟩
  clear hnx
  have hnx := fun ty => run_next_at w2 w.heap.size ⟨s.toArray⟩ 1 ty HI1.out hsz1
  rw [hd1] at hnx
  have K2 := setM_keeps w2 w.heap.size (.stringIter ⟨s.toArray⟩ (1 + (x.toNat, 1).2))
  generalize hw1 : setM w2 w.heap.size (.stringIter ⟨s.toArray⟩ (1 + (x.toNat, 1).2)) = w3 at *
  clear hw1
  go_wp2
  rw [rounds_succ]
  go_wp2_with (fail)
  refine (HS.out w3).mono ?_
  rintro e w4 ⟨rfl, rfl⟩
  go_wp2
  go_ret
  exact ⟨rfl, ((hK0.of_no (T := In [w.heap.size]) |>.trans' K1).trans' K2).mono (fun i hi h => by simp [In] at h; omega)⟩

theorem trimLF_0 (x : UInt8) (t : List UInt8) (w : World) (hx : 33 ≤ x.toNat ∧ x.toNat ≤ 126) (hlen : t.length ≤ 1000000) :
    Calls Tryz.prog 153 #[str (x :: t), .func (.func 154) #[] #[]] w fun e w' => e = .returned (str (x :: t)) ∧ Keeps No w w' := by
  have hI := indexFunc_0 x t w hx
  have hls := str_len (x :: t)
  rw [List.length_cons] at hls
  have hc0 := str_cut (x :: t) 0 (t.length + 1)
  rw [show ((x :: t).drop 0).take (t.length + 1 - 0) = x :: t by simp] at hc0
  generalize x :: t = s at *
  have HI := Lib.hid hI
  clear hI
  go_enter Tryz.func153, Tryz.ntmps153
  go_wp2_with (fail)
  refine HI.out.mono ?_
  rintro e w1 ⟨rfl, K⟩
  go_wp2
  go_ret
  exact ⟨rfl, K⟩
theorem trimLF_1 (x : UInt8) (t : List UInt8) (w : World) (hx : 33 ≤ x.toNat ∧ x.toNat ≤ 126) (hlen : t.length ≤ 1000000) :
    Calls Tryz.prog 153 #[str (32 :: x :: t), .func (.func 154) #[] #[]] w fun e w' => e = .returned (str (x :: t)) ∧ Keeps No w w' := by
  have hI := indexFunc_1 x t w hx
  have hls := str_len (32 :: x :: t)
  rw [List.length_cons, List.length_cons] at hls
  have hc0 := str_cut (32 :: x :: t) 1 (t.length + 1 + 1)
  rw [show ((32 :: x :: t).drop 1).take (t.length + 1 + 1 - 1) = x :: t by simp] at hc0
  generalize hs : 32 :: x :: t = s at *
  have HI := Lib.hid hI
  clear hI hs
  go_enter Tryz.func153, Tryz.ntmps153
  go_wp2_with (fail)
  refine HI.out.mono ?_
  rintro e w1 ⟨rfl, K⟩
  go_wp2
  go_ret
  exact ⟨rfl, K⟩
/-- A text without blanks ahead, or with one. -/
theorem trimLeft_0 (x : UInt8) (t : List UInt8) (w : World) (hx : 33 ≤ x.toNat ∧ x.toNat ≤ 126) (hlen : t.length ≤ 1000000) :
    Calls Tryz.prog 114 #[str (x :: t)] w fun e w' => e = .returned (str (x :: t)) ∧ Keeps No w w' := by
  have HI := Lib.hid (trimLF_0 x t w hx hlen)
  generalize x :: t = s at *
  go_enter Tryz.func114, Tryz.ntmps114
  go_wp2_with (fail)
  refine HI.out.mono ?_
  rintro e w1 ⟨rfl, K⟩
  go_wp2
  go_ret
  exact ⟨rfl, K⟩
theorem trimLeft_1 (x : UInt8) (t : List UInt8) (w : World) (hx : 33 ≤ x.toNat ∧ x.toNat ≤ 126) (hlen : t.length ≤ 1000000) :
    Calls Tryz.prog 114 #[str (32 :: x :: t)] w fun e w' => e = .returned (str (x :: t)) ∧ Keeps No w w' := by
  have HI := Lib.hid (trimLF_1 x t w hx hlen)
  generalize hs : 32 :: x :: t = s at *
  clear hs
  go_enter Tryz.func114, Tryz.ntmps114
  go_wp2_with (fail)
  refine HI.out.mono ?_
  rintro e w1 ⟨rfl, K⟩
  go_wp2
  go_ret
  exact ⟨rfl, K⟩
end Go.Proofs.YtjbbapodcngnaaaGreatDoor
namespace Go.Proofs.YtjbbapodcngnaaaGreatDoor
open Go.RowKit Hdr

/-! ### strings.HasPrefix -/
theorem prefix_take' (p l : List UInt8) (h : p.length ≤ l.length) : (l.take p.length == p) = p.isPrefixOf l := by
  rw [Bool.eq_iff_iff, beq_iff_eq, List.isPrefixOf_iff_prefix]
  constructor
  · intro h
    refine ⟨l.drop p.length, ?_⟩
    have h9 := List.take_append_drop p.length l
    rw [h] at h9
    exact h9
  · rintro ⟨t, rfl⟩
    simp
theorem prefix_short' (p l : List UInt8) (h : l.length < p.length) : p.isPrefixOf l = false := by
  rw [Bool.eq_false_iff]
  intro h2
  rw [List.isPrefixOf_iff_prefix] at h2
  have := h2.length_le
  omega

set_option maxRecDepth 100000 in
theorem hasPrefixI_any (l p : List UInt8) (w : World) (_hl : l.length ≤ 1000000000) (hp : p.length ≤ 1000000000) :
    Calls Tryz.prog 158 #[str l, str p] w fun e w' => e = .returned (.bool (p.isPrefixOf l)) ∧ w' = w := by
  have hls := str_len l
  have hps := str_len p
  by_cases h : p.length ≤ l.length
  · have hpt := prefix_take' p l h
    have hc0 := str_cut l 0 p.length
    rw [List.drop_zero, Nat.sub_zero] at hc0
    have hbe := str_beq (l.take p.length) p
    have e1 : decide ((p.length : Int) ≤ (l.length : Int)) = true := decide_eq_true (by omega)
    have b1 : (p.length : Int) ≤ (l.length : Int) := by omega
    generalize hr : p.isPrefixOf l = r at *
    have HPT := Lib.hid hpt
    generalize l.take p.length = q at *
    have hd : decide (q = p) = (q == p) := by rw [Bool.eq_iff_iff]; simp
    rw [hd] at hbe
    cases r with
    | true =>
      have hqp : q = p := by have := HPT.out; simpa using this
      subst hqp
      clear hpt hbe hd hr
      go_enter Tryz.func158, Tryz.ntmps158
      go_wp2
      go_ret
      exact ⟨rfl, rfl⟩
    | false =>
      have hqp : (q == p) = false := HPT.out
      have hqp2 : q ≠ p := by simpa using hqp
      rw [hqp] at hbe
      clear hpt hd hr
      go_enter Tryz.func158, Tryz.ntmps158
      go_wp2
      go_ret
      exact ⟨rfl, rfl⟩
  · have hp := prefix_short' p l (by omega)
    have e1 : decide ((p.length : Int) ≤ (l.length : Int)) = false := decide_eq_false (by omega)
    have HP := Lib.hid hp
    clear hp
    go_enter Tryz.func158, Tryz.ntmps158
    go_wp2
    go_ret
    exact ⟨by rw [HP.out]; rfl, rfl⟩
set_option maxRecDepth 100000 in
theorem hasPrefixS_any (l p : List UInt8) (w : World) (hl : l.length ≤ 1000000000) (hp : p.length ≤ 1000000000) :
    Calls Tryz.prog 120 #[str l, str p] w fun e w' => e = .returned (.bool (p.isPrefixOf l)) ∧ w' = w := by
  have H := Lib.hid (hasPrefixI_any l p w hl hp)
  go_enter Tryz.func120, Tryz.ntmps120
  go_wp2_with (fail)
  refine H.out.mono ?_
  rintro e w' ⟨rfl, rfl⟩
  go_wp2
  go_ret
  exact ⟨rfl, rfl⟩

/-! ### Values, parameters -/
set_option maxRecDepth 100000 in
theorem consumeValue_any (x : UInt8) (t : List UInt8) (w : World) (h : ∀ c ∈ x :: t, t7b c = true) (hlen : t.length ≤ 10000) :
    Calls Tryz.prog 155 #[str (x :: t)] w fun e w' => e = .returned (.tuple #[str (x :: t), str []]) ∧ Keeps No w w' := by
  have H := consumeToken_any (x :: t) [] w h (.inl rfl) (by simp; omega)
  rw [List.append_nil] at H
  have hx := (t7N_lt (h x (List.mem_cons_self ..))).1
  unfold t7N at hx
  have e1 : ((x.toNat : Int) == 34) = false := by simp; omega
  have hg : (x :: t)[0]? = some x := rfl
  have hne : (x :: t).isEmpty = false := rfl
  have hsz : 0 < (x :: t).length := by simp
  generalize x :: t = s at *
  have hls := str_len s
  have g0 := str_get_of hg (by rw [str_len]; exact hsz)
  have HH := Lib.hid H
  have b0 : (0 : Int) < (s.length : Int) := by omega
  have hb0 : decide ((0 : Int) < (s.length : Int)) = true := decide_eq_true b0
  clear H h hg hx
  go_enter Tryz.func155, Tryz.ntmps155
  go_wp2_with (fail)
  refine HH.out.mono ?_
  rintro e w' ⟨rfl, K⟩
  go_wp2
  go_ret2
  exact ⟨rfl, K⟩

/-- A parameter, step by step. -/
theorem consumeParam_walk (s0 s1 s2 k s3 v : List UInt8) (w : World)
    (T1 : ∀ W, Calls Tryz.prog 114 #[str s0] W fun e w' => e = .returned (str s0) ∧ Keeps No W w') (P1 : ∀ W, Calls Tryz.prog 120 #[str s0, str [59]] W fun e w' => e = .returned (.bool true) ∧ w' = W)
    (cut1 : (⟨s0.toArray⟩ : ByteArray).extract 1 s0.length = ⟨s1.toArray⟩) (hl0 : 1 ≤ s0.length ∧ s0.length ≤ 1000000)
    (T2 : ∀ W, Calls Tryz.prog 114 #[str s1] W fun e w' => e = .returned (str s2) ∧ Keeps No W w')
    (C1 : ∀ W, Calls Tryz.prog 152 #[str s2] W fun e w' => e = .returned (.tuple #[str k, str s3]) ∧ Keeps No W w')
    (L1 : ∀ W, Calls Tryz.prog 112 #[str k] W fun e w' => e = .returned (str k) ∧ w' = W) (hk : k.isEmpty = false)
    (T3 : ∀ W, Calls Tryz.prog 114 #[str s3] W fun e w' => e = .returned (str s3) ∧ Keeps No W w') (P2 : ∀ W, Calls Tryz.prog 120 #[str s3, str [61]] W fun e w' => e = .returned (.bool true) ∧ w' = W)
    (cut2 : (⟨s3.toArray⟩ : ByteArray).extract 1 s3.length = ⟨v.toArray⟩) (hl3 : 1 ≤ s3.length ∧ s3.length ≤ 1000000)
    (T4 : ∀ W, Calls Tryz.prog 114 #[str v] W fun e w' => e = .returned (str v) ∧ Keeps No W w')
    (CV : ∀ W, Calls Tryz.prog 155 #[str v] W fun e w' => e = .returned (.tuple #[str v, str []]) ∧ Keeps No W w') (hv : v.isEmpty = false) :
    Calls Tryz.prog 115 #[str s0] w fun e w' => e = .returned (.tuple #[str k, str v, str []]) ∧ Keeps No w w' := by
  have z0 := str_len s0
  have z3 := str_len s3
  have b0 : (1 : Int) ≤ (s0.length : Int) := by omega
  have b3 : (1 : Int) ≤ (s3.length : Int) := by omega
  go_enter Tryz.func115, Tryz.ntmps115
  go_wp2_with (fail)
  refine (T1 w).mono ?_
  rintro e w1 ⟨rfl, K1⟩
  go_wp2_with (fail)
  refine (P1 w1).mono ?_
  rintro e w2 ⟨rfl, rfl⟩
  go_wp2_with (fail)
  refine (T2 w2).mono ?_
  rintro e w3 ⟨rfl, K3⟩
  go_wp2_with (fail)
  refine (C1 w3).mono ?_
  rintro e w4 ⟨rfl, K4⟩
  go_wp2_with (fail)
  refine (L1 w4).mono ?_
  rintro e w5 ⟨rfl, rfl⟩
  go_wp2_with (fail)
  refine (T3 w5).mono ?_
  rintro e w6 ⟨rfl, K6⟩
  go_wp2_with (fail)
  refine (P2 w6).mono ?_
  rintro e w7 ⟨rfl, rfl⟩
  go_wp2_with (fail)
  refine (T4 w7).mono ?_
  rintro e w8 ⟨rfl, K8⟩
  go_wp2_with (fail)
  refine (CV w8).mono ?_
  rintro e w9 ⟨rfl, K9⟩
  go_wp2
  go_ret3
  exact ⟨rfl, ((((K1.trans' K3).trans' K4).trans' K6).trans' K8).trans' K9⟩
/-- The parameter, as it is written. -/
def parV (v : List UInt8) : List UInt8 := 59 :: 32 :: (bndK ++ 61 :: v)
set_option maxRecDepth 100000 in
theorem consumeParam_any (x : UInt8) (t : List UInt8) (w : World) (h : ∀ c ∈ x :: t, t7b c = true) (hlen : t.length ≤ 10000) :
    Calls Tryz.prog 115 #[str (parV (x :: t))] w fun e w' => e = .returned (.tuple #[str bndK, str (x :: t), str []]) ∧ Keeps No w w' := by
  have hx := (t7N_lt (h x (List.mem_cons_self ..))).1
  unfold t7N at hx
  have hbl : bndK.length = 8 := rfl
  have hl1 : (32 :: (bndK ++ 61 :: (x :: t))).length ≤ 1000000 := by simp; omega
  have hb : bndK ++ 61 :: (x :: t) = 98 :: ([111, 117, 110, 100, 97, 114, 121] ++ 61 :: (x :: t)) := rfl
  have T2 : ∀ W, Calls Tryz.prog 114 #[str (32 :: (bndK ++ 61 :: (x :: t)))] W fun e w' => e = .returned (str (bndK ++ 61 :: (x :: t))) ∧ Keeps No W w' := by
    intro W
    rw [hb]
    exact trimLeft_1 98 ([111, 117, 110, 100, 97, 114, 121] ++ 61 :: (x :: t)) W (by decide) (by simp; omega)
  refine consumeParam_walk (parV (x :: t)) (32 :: (bndK ++ 61 :: (x :: t))) (bndK ++ 61 :: (x :: t)) bndK (61 :: (x :: t)) (x :: t) w (fun W => trimLeft_0 59 _ W (by decide) hl1)
    (fun W => hasPrefixS_any (parV (x :: t)) [59] W (by unfold parV; simp; omega) (by decide)) ?_ (by unfold parV; simp; omega) T2
    (fun W => consumeToken_any bndK (61 :: (x :: t)) W (by decide) (.inr ⟨61, x :: t, rfl, .inr (.inr rfl)⟩) (by simp; omega)) (fun W => toLower_any bndK W (fun c hc => by revert c; unfold lowN; decide) (by decide)) rfl
    (fun W => trimLeft_0 61 (x :: t) W (by decide) (by simp; omega)) (fun W => hasPrefixS_any (61 :: (x :: t)) [61] W (by simp; omega) (by decide)) ?_ (by simp; omega) (fun W => trimLeft_0 x t W (by omega) (by omega)) (fun W => consumeValue_any x t W h hlen) rfl
  · rw [str_cut]
    congr 2
    unfold parV
    rw [List.drop_succ_cons, List.drop_zero]
    exact List.take_of_length_le (by simp)
  · rw [str_cut]
    congr 2
    rw [List.drop_succ_cons, List.drop_zero]
    exact List.take_of_length_le (by simp)

/-! ### The check of a type -/
set_option maxRecDepth 100000 in
set_option maxHeartbeats 1000000 in
theorem checkType_ok (a b : List UInt8) (w : World) (ha : ∀ c ∈ a, t7b c = true) (hb : ∀ c ∈ b, t7b c = true) (ha0 : a ≠ []) (hb0 : b ≠ []) (hlen : a.length + b.length ≤ 10000) :
    Calls Tryz.prog 113 #[str (a ++ 47 :: b)] w fun e w' => e = .returned .nilIface ∧ Keeps No w w' := by
  have C1 := fun W => consumeToken_any a (47 :: b) W ha (.inr ⟨47, b, rfl, .inl rfl⟩) (by simp; omega)
  have P1 : ∀ W, Calls Tryz.prog 120 #[str (47 :: b), str [47]] W fun e w' => e = .returned (.bool true) ∧ w' = W := fun W => hasPrefixS_any (47 :: b) [47] W (by simp; omega) (by decide)
  have C2 := fun W => consumeToken_any b [] W hb (.inl rfl) (by simp; omega)
  rw [List.append_nil] at C2
  have e1 : a.isEmpty = false := by cases a with | nil => exact absurd rfl ha0 | cons _ _ => rfl
  have e2 : b.isEmpty = false := by cases b with | nil => exact absurd rfl hb0 | cons _ _ => rfl
  have e3 : (47 :: b).isEmpty = false := rfl
  have z := str_len (47 :: b)
  have cut := str_cut (47 :: b) 1 (47 :: b).length
  rw [show ((47 :: b).drop 1).take ((47 :: b).length - 1) = b by simp] at cut
  have hl : 1 ≤ (47 :: b).length := by simp
  have b1 : (1 : Int) ≤ ((47 :: b).length : Int) := by omega
  generalize a ++ 47 :: b = s at *
  generalize 47 :: b = r at *
  clear ha hb ha0 hb0
  go_enter Tryz.func113, Tryz.ntmps113
  go_wp2_with (fail)
  refine (C1 w).mono ?_
  rintro e w1 ⟨rfl, K1⟩
  go_wp2_with (fail)
  refine (P1 w1).mono ?_
  rintro e w2 ⟨rfl, rfl⟩
  go_wp2_with (fail)
  refine (C2 w2).mono ?_
  rintro e w3 ⟨rfl, K3⟩
  go_wp2
  go_ret
  exact ⟨rfl, K1.trans' K3⟩

set_option maxRecDepth 100000 in
theorem checkType_no (w : World) :
    Calls Tryz.prog 113 #[str []] w fun e w' => (∃ ea, e = .returned (.iface 203 (.pointer (some ea)))) ∧ Keeps No w w' := by
  have C1 : ∀ W, Calls Tryz.prog 152 #[str []] W fun e w' => e = .returned (.tuple #[str [], str []]) ∧ Keeps No W w' := fun W => consumeToken_any [] [] W (by simp) (.inl rfl) (by simp)
  go_enter Tryz.func113, Tryz.ntmps113
  go_wp2_with (fail)
  refine (C1 w).mono ?_
  rintro e w1 ⟨rfl, K1⟩
  go_wp2_with (fail)
  refine (errorsNew_any _ w1).mono ?_
  rintro e w2 ⟨eb, rfl, K2⟩
  go_wp2
  go_ret
  exact ⟨⟨_, rfl⟩, K1.trans' K2⟩

/-! ### Maps of texts -/
theorem und_mapS : Tryz.prog.underlying 135 = some (.map 9 9) := Tryz.underlying135
theorem und_mapM : Tryz.prog.underlying 208 = some (.map 9 135) := Tryz.underlying208
/-- A map of texts. -/
def MapS (w : World) (mb : Nat) (l : List (List UInt8 × List UInt8)) : Prop :=
  ∃ es clock, w.heap[mb]? = some (.map es clock) ∧ es.toList.map (fun e => (e.key, e.val)) = l.map (fun x => (str x.1, str x.2)) ∧ ∀ e ∈ es.toList, e.born < clock
theorem MapS.lt {w : World} {mb : Nat} {l : List (List UInt8 × List UInt8)} (h : MapS w mb l) : mb < w.heap.size := by
  obtain ⟨es, c, h, _⟩ := h
  exact (Array.getElem?_eq_some_iff.1 h).1
theorem MapS.keep {S : Nat → Prop} {w w' : World} {mb : Nat} {l : List (List UInt8 × List UInt8)} (h : MapS w mb l) (k : Keeps S w w') (hS : ¬ S mb) : MapS w' mb l := by
  have hl := h.lt
  obtain ⟨es, c, h, h2⟩ := h
  exact ⟨es, c, (k.block mb hl hS).trans h, h2⟩
theorem MapS.new (w : World) : MapS (w.alloc (.map #[] 0)) w.heap.size [] := ⟨#[], 0, heap_alloc_new w _, rfl, fun e h => by cases h⟩
theorem run_makeS (w : World) : (Instr.makeMap 135 none).run Tryz.prog w = .ok (.map (some w.heap.size)) (w.alloc (.map #[] 0)) := by
  simp [Instr.makeMap, Result.andThen]
theorem run_makeM (w : World) : (Instr.makeMap 208 none).run Tryz.prog w = .ok (.map (some w.heap.size)) (w.alloc (.map #[] 0)) := by
  simp [Instr.makeMap, Result.andThen]
theorem MapS.grp {w : World} {mb : Nat} {l : List (List UInt8 × List UInt8)} (h : MapS w mb l) : MapE w mb (l.map fun x => ⟨x.1, str x.2, []⟩) := by
  obtain ⟨es, c, h1, h2, _⟩ := h
  exact ⟨es, c, h1, by rw [h2, List.map_map]; rfl⟩
theorem run_lookS_none_ok (w : World) (mb : Nat) (k : List UInt8) (h : MapS w mb []) :
    (Instr.lookup 135 (.map (some mb)) (str k) true).run Tryz.prog w = .ok (.tuple #[str [], .bool false]) w := by
  obtain ⟨es, c, hb, he⟩ := h.grp
  have hf := findNow_none k es.toList [] 0 he (by simp)
  simp [Instr.lookup, run_underlying und_mapS, MapKept.run_getObj_map hb, check_str, Instr.findKey, run_underlying Tryz.underlying9, hf, Result.andThen]
theorem run_lookS_one (w : World) (mb : Nat) (k v : List UInt8) (h : MapS w mb [(k, v)]) :
    (Instr.lookup 135 (.map (some mb)) (str k) false).run Tryz.prog w = .ok (str v) w := by
  obtain ⟨es, c, hb, he⟩ := h.grp
  have hf := findNow_some k ⟨k, str v, []⟩ rfl [] es.toList [] 0 he (by simp)
  simp [Instr.lookup, run_underlying und_mapS, MapKept.run_getObj_map hb, check_str, Instr.findKey, run_underlying Tryz.underlying9, hf, Result.andThen]
theorem run_updS (w : World) (mb : Nat) (k v : List UInt8) (h : MapS w mb []) :
    ∃ W, (Instr.mapUpdate 135 (.map (some mb)) (str k) (str v)).run Tryz.prog w = .ok () W ∧ MapS W mb [(k, v)] ∧ Keeps (In [mb]) w W := by
  have hlt := h.lt
  obtain ⟨es, c, hb, he, hbn⟩ := h
  have hes : es = #[] := by
    have : es.toList = [] := by simpa using he
    simpa using this
  subst hes
  have hf := findNow_none k [] [] 0 rfl (by simp)
  refine ⟨setM w mb (.map (#[].push { key := str k, val := str v, born := c }) (c + 1)), ?_, ⟨_, _, setM_same _ hlt, rfl, fun e he => ?_⟩, setM_keeps _ _ _⟩
  · simp [Instr.mapUpdate, run_underlying und_mapS, MapKept.run_getObj_map hb, check_str, Instr.findKey, run_underlying Tryz.underlying9, hf, MapKept.run_setObj_map _ hb, Result.andThen, setM]
  · simp at he
    subst he
    exact Nat.lt_succ_self c
end Go.Proofs.YtjbbapodcngnaaaGreatDoor
namespace Go.Proofs.YtjbbapodcngnaaaGreatDoor
open Go.RowKit Hdr

set_option maxRecDepth 100000 in
theorem trimSpace_nil (w : World) : Calls Tryz.prog 111 #[str []] w fun e w' => e = .returned (str []) ∧ Keeps No w w' := by
  obtain ⟨cap, W, hcv, hrow, K, hsz⟩ := run_bytes_of w []
  unfold str at hcv ⊢
  clear hrow hsz
  go_enter Tryz.func111, Tryz.ntmps111
  go_wp2
  refine wp_loop_rounds 1 ?_
  rw [rounds_succ]
  go_wp2
  go_ret
  exact ⟨rfl, K⟩

set_option maxRecDepth 100000 in
/-- No type at all: an error. -/
theorem pm_none (w : World) :
    Calls Tryz.prog 87 #[str []] w fun e w' => (∃ ea, e = .returned (.tuple #[str [], .map none, .iface 203 (.pointer (some ea))])) ∧ Keeps No w w' := by
  have C := zzCutM_none [] 59 w (by simp) (by simp)
  have Lw := fun W => toLower_any [] W (by simp) (by simp)
  have T := fun W => trimSpace_nil W
  have K := fun W => checkType_no W
  have HC := Lib.hid C
  have HL := Lib.hid Lw
  have HT := Lib.hid T
  have HK := Lib.hid K
  clear C Lw T K
  go_enter Tryz.func87, Tryz.ntmps87
  go_wp2_with (fail)
  refine HC.out.mono ?_
  rintro e w1 ⟨rfl, K1⟩
  go_wp2_with (fail)
  refine (HL.out w1).mono ?_
  rintro e w2 ⟨rfl, rfl⟩
  go_wp2_with (fail)
  refine (HT.out w2).mono ?_
  rintro e w3 ⟨rfl, K3⟩
  go_wp2_with (fail)
  refine (HK.out w3).mono ?_
  rintro e w4 ⟨⟨ea, rfl⟩, K4⟩
  go_wp2
  go_ret3
  exact ⟨⟨ea, rfl⟩, (K1.trans' K3).trans' K4⟩

/-- What ParseMediaType leaves: the type, a map of its own. -/
def PmPost (base : List UInt8) (l : List (List UInt8 × List UInt8)) (w : World) (e : Ending) (w' : World) : Prop :=
  ∃ mb, e = .returned (.tuple #[str base, .map (some mb), .nilIface]) ∧ w.heap.size ≤ mb ∧ MapS w' mb l ∧ Keeps No w w'

set_option maxRecDepth 100000 in
set_option maxHeartbeats 2000000 in
theorem pm_walk (v base r2 : List UInt8) (r3 : Bool) (w : World) (_hvl : v.length ≤ 100000) (hbv : base.length ≤ v.length)
    (CUT : ∀ W, Calls Tryz.prog 110 #[str v, .string ⟨#[59]⟩] W fun e w' => e = .returned (.tuple #[str base, str r2, .bool r3]) ∧ Keeps No W w')
    (LOW : ∀ W, Calls Tryz.prog 112 #[str base] W fun e w' => e = .returned (str base) ∧ w' = W)
    (TS : ∀ W, Keeps No w W → Calls Tryz.prog 111 #[str base] W fun e w' => e = .returned (str base) ∧ Keeps No W w')
    (CK : ∀ W, Calls Tryz.prog 113 #[str base] W fun e w' => e = .returned .nilIface ∧ Keeps No W w')
    (rest : List UInt8) (cutv : (⟨v.toArray⟩ : ByteArray).extract base.length v.length = ⟨rest.toArray⟩)
    (l : List (List UInt8 × List UInt8)) (hcase : (rest = [] ∧ l = []) ∨ ∃ x t, rest = parV (x :: t) ∧ l = [(bndK, x :: t)] ∧ (∀ c ∈ x :: t, t7b c = true) ∧ t.length ≤ 1000) :
    Calls Tryz.prog 87 #[str v] w (PmPost base l w) := by
  have hlv := str_len v
  have hlb := str_len base
  have b1 : (base.length : Int) ≤ (v.length : Int) := by omega
  have hmkS := run_makeS
  have hmkM := run_makeM
  have HCA := Lib.hid hcase
  clear hcase
  go_enter Tryz.func87, Tryz.ntmps87
  go_wp2_with (fail)
  refine (CUT w).mono ?_
  rintro e w1 ⟨rfl, K1⟩
  go_wp2_with (fail)
  refine (LOW w1).mono ?_
  rintro e w2 ⟨rfl, rfl⟩
  go_wp2_with (fail)
  refine (TS w2 K1).mono ?_
  rintro e w3 ⟨rfl, K3⟩
  go_wp2_with (fail)
  refine (CK w3).mono ?_
  rintro e w4 ⟨rfl, K4⟩
  have K14 := (K1.trans' K3).trans' K4
  have M0 := MapS.new w4
  have K5 : Keeps No w4 (w4.alloc (.map #[] 0)) := (Keeps.refl No w4).alloc _
  have hN5 := heap_alloc_new (w4.alloc (.map #[] 0)) (.map #[] 0)
  have K6 : Keeps No (w4.alloc (.map #[] 0)) ((w4.alloc (.map #[] 0)).alloc (.map #[] 0)) := (Keeps.refl No _).alloc _
  have hsz5 : (w4.alloc (.map #[] 0)).heap.size = w4.heap.size + 1 := by simp
  rw [hsz5] at hN5
  have M6 := M0.keep K6 (fun h => h)
  have HM6 := Lib.hid M6
  have HN5 := Lib.hid hN5
  clear M0 M6 hN5
  go_upto_block 0 with (fail)
  go_cut [2, 3, 4] (fun s2 s3 s4 wx => s2 = str base ∧ s3 = .map (some w4.heap.size) ∧ s4 = .nilIface ∧ MapS wx w4.heap.size l ∧ wx.heap[w4.heap.size + 1]? = some (.map #[] 0) ∧ Keeps No w wx)
  case first =>
    rcases HCA.out with ⟨hr, hl⟩ | ⟨x, t, hr, hl, hall, htl⟩
    · have HR := Lib.hid hr
      have HL := Lib.hid hl
      have hz : (⟨rest.toArray⟩ : ByteArray).size = 0 := by rw [hr]; rfl
      have hz2 : rest.length = 0 := by rw [hr]; rfl
      clear hr hl
      go_wp2
      refine wp_loop_rounds 1 ?_
      rw [rounds_succ]
      go_wp2
      go_meet
      exact ⟨rfl, rfl, rfl, by rw [HL.out]; exact HM6.out, HN5.out, (K14.trans_no K5).trans_no K6⟩
    · have hx := (t7N_lt (hall x (List.mem_cons_self ..))).1
      unfold t7N at hx
      have hpl : (parV (x :: t)).length = t.length + 12 := by simp [parV, bndK]
      have T1 : ∀ W, Calls Tryz.prog 114 #[str rest] W fun e w' => e = .returned (str rest) ∧ Keeps No W w' := fun W => by rw [hr]; exact trimLeft_0 59 _ W (by decide) (by simp [bndK]; omega)
      have C1 : ∀ W, Calls Tryz.prog 115 #[str rest] W fun e w' => e = .returned (.tuple #[str bndK, str (x :: t), str []]) ∧ Keeps No W w' := fun W => by rw [hr]; exact consumeParam_any x t W hall (by omega)
      have Z1 : ∀ W, Calls Tryz.prog 110 #[str bndK, .string ⟨#[42]⟩] W fun e w' => e = .returned (.tuple #[str bndK, str [], .bool false]) ∧ Keeps No W w' := fun W => zzCutM_none bndK 42 W (by decide) (by decide)
      have hrl : rest.length = t.length + 12 := by rw [hr]; exact hpl
      have hrs := str_len rest
      have hbe : bndK.isEmpty = false := rfl
      have HL := Lib.hid hl
      have b0 : decide ((0 : Int) < (rest.length : Int)) = true := decide_eq_true (by omega)
      have b2 : ((rest.length : Int) == 0) = false := beq_eq_false_iff_ne.2 (by omega)
      have b3 : (rest.length == 0) = false := beq_eq_false_iff_ne.2 (by omega)
      have b4 : rest ≠ [] := fun h => by rw [h] at hrl; simp at hrl
      have b5 : rest.isEmpty = false := by cases rest with | nil => exact absurd rfl b4 | cons _ _ => rfl
      have b6 : 0 < rest.length := by omega
      have b7 : decide (0 < rest.length) = true := decide_eq_true b6
      generalize hvv : x :: t = val at *
      clear hvv hr hl hx hpl hall hrl
      generalize hbb : bndK = bk at *
      have HBB := Lib.hid hbb
      clear hbb
      go_wp2
      refine wp_loop_rounds 2 ?_
      rw [rounds_succ]
      go_wp2_with (fail)
      refine (T1 _).mono ?_
      rintro e w7 ⟨rfl, K7⟩
      go_wp2_with (fail)
      refine (C1 w7).mono ?_
      rintro e w8 ⟨rfl, K8⟩
      go_wp2_with (fail)
      refine (Z1 w8).mono ?_
      rintro e w9 ⟨rfl, K9⟩
      have K69 := (K7.trans' K8).trans' K9
      have M9 := HM6.out.keep K69 (fun h => h)
      have hlk := run_lookS_none_ok w9 w4.heap.size bk M9
      obtain ⟨w10, hup, M10, K10⟩ := run_updS w9 w4.heap.size bk val M9
      have HM10 := Lib.hid M10
      clear M9 M10
      go_wp2
      rw [rounds_succ]
      go_wp2
      go_meet
      refine ⟨rfl, rfl, rfl, by rw [HL.out]; exact HM10.out, ?_, ?_⟩
      · have h6 : ((w4.alloc (.map #[] 0)).alloc (.map #[] 0)).heap.size = w4.heap.size + 2 := by simp
        rw [K10.block _ (by have := K69.size; omega) (fun h => by simp [In] at h), K69.block _ (by omega) (fun h => h)]
        exact HN5.out
      · have h4 := K14.size
        exact (((K14.trans_no K5).trans_no K6).trans_no K69).trans K10 (fun i hi h => by simp [In] at h; omega)
  case rest =>
    obtain ⟨rfl, rfl, rfl, hM, hN, K⟩ := hcut
    have hrg := run_range_map wc 208 9 135 (w4.heap.size + 1) #[] 0 und_mapM hN
    have hit := heap_alloc_new wc (.mapIter (some (w4.heap.size + 1)) 0 #[] 0)
    have hlt : w4.heap.size + 1 < wc.heap.size := (Array.getElem?_eq_some_iff.1 hN).1
    have hN' : (wc.alloc (.mapIter (some (w4.heap.size + 1)) 0 #[] 0)).heap[w4.heap.size + 1]? = some (.map #[] 0) := by rw [heap_alloc_old wc _ hlt, hN]
    have hnx : ∀ ty, (Instr.next (.pointer (some ⟨wc.heap.size, 0, none⟩)) false ty).run Tryz.prog (wc.alloc (.mapIter (some (w4.heap.size + 1)) 0 #[] 0)) = .ok (.tuple #[.bool false]) (wc.alloc (.mapIter (some (w4.heap.size + 1)) 0 #[] 0)) := fun ty => by
      rcases Go.run_next_at _ ty wc.heap.size (w4.heap.size + 1) 0 0 #[] #[] 0 hit hN' (fun x h => by cases h) (Nat.le_refl _) with ⟨_, h⟩ | ⟨e, he, _⟩
      · exact h
      · simp [leftOf] at he
    have HMC := Lib.hid hM
    have h4 := K14.size
    have Kf : Keeps No w (wc.alloc (.mapIter (some (w4.heap.size + 1)) 0 #[] 0)) := K.trans_no ((Keeps.refl No wc).alloc _)
    have Mf := hM.keep (w' := wc.alloc (.mapIter (some (w4.heap.size + 1)) 0 #[] 0)) ((Keeps.refl No wc).alloc _) (fun h => h)
    have HMf := Lib.hid Mf
    clear hM hN hit hN' hlt Mf
    go_wp2
    generalize (wc.alloc (.mapIter (some (w4.heap.size + 1)) 0 #[] 0)) = wd at *
    refine wp_loop_rounds 1 ?_
    rw [rounds_succ]
    go_wp2
    go_ret3
    exact ⟨w4.heap.size, rfl, h4, HMf.out, Kf⟩

/-- A type of two tokens. -/
theorem tok_ne {a : List UInt8} (h : a ≠ []) : ∃ x l, a = x :: l := by cases a with | nil => exact absurd rfl h | cons x l => exact ⟨x, l, rfl⟩
theorem type_facts (a b : List UInt8) (ha : ∀ c ∈ a, t7b c = true) (hb : ∀ c ∈ b, t7b c = true) (ha0 : a ≠ []) (hb0 : b ≠ []) (hlen : a.length + b.length ≤ 10000) (w : World) (hT : Tab w) :
    (∀ W, Calls Tryz.prog 112 #[str (a ++ 47 :: b)] W fun e w' => e = .returned (str (a ++ 47 :: b)) ∧ w' = W) ∧
    (∀ W, Keeps No w W → Calls Tryz.prog 111 #[str (a ++ 47 :: b)] W fun e w' => e = .returned (str (a ++ 47 :: b)) ∧ Keeps No W w') ∧
    (∀ W, Calls Tryz.prog 113 #[str (a ++ 47 :: b)] W fun e w' => e = .returned .nilIface ∧ Keeps No W w') ∧ (59 : UInt8) ∉ a ++ 47 :: b := by
  refine ⟨fun W => toLower_any _ W (fun c hc => ?_) (by simp; omega), fun W hW => ?_, fun W => checkType_ok a b W ha hb ha0 hb0 hlen, fun hc => ?_⟩
  · simp only [List.mem_append, List.mem_cons] at hc
    unfold lowN
    rcases hc with hc | rfl | hc
    · have := (t7N_lt (ha c hc)).1
      unfold t7N at this
      omega
    · decide
    · have := (t7N_lt (hb c hc)).1
      unfold t7N at this
      omega
  · obtain ⟨x, l, rfl⟩ := tok_ne ha0
    rcases nil_or_snoc b with rfl | ⟨m, y, rfl⟩
    · exact absurd rfl hb0
    · exact trimSpace_any x y (l ++ 47 :: (m ++ [y])) ((x :: l) ++ 47 :: m) (by simp) (t7N_lt (ha x (by simp))).1 (t7N_lt (hb y (by simp))).1 W (hT.keep_no hW) (by simp at hlen ⊢; omega)
  · simp only [List.mem_append, List.mem_cons] at hc
    rcases hc with hc | hc | hc
    · have := (t7N_lt (ha _ hc)).1
      revert this
      decide
    · revert hc; decide
    · have := (t7N_lt (hb _ hc)).1
      revert this
      decide
theorem pm_plain (a b : List UInt8) (ha : ∀ c ∈ a, t7b c = true) (hb : ∀ c ∈ b, t7b c = true) (ha0 : a ≠ []) (hb0 : b ≠ []) (hlen : a.length + b.length ≤ 10000) (w : World) (hT : Tab w) :
    Calls Tryz.prog 87 #[str (a ++ 47 :: b)] w (PmPost (a ++ 47 :: b) [] w) := by
  obtain ⟨h1, h2, h3, h4⟩ := type_facts a b ha hb ha0 hb0 hlen w hT
  have hl : (a ++ 47 :: b).length ≤ 100000 := by simp; omega
  refine pm_walk (a ++ 47 :: b) (a ++ 47 :: b) [] false w hl (Nat.le_refl _) (fun W => zzCutM_none _ 59 W h4 (by omega)) h1 h2 h3 [] ?_ [] (.inl ⟨rfl, rfl⟩)
  rw [str_cut, Nat.sub_self, List.take_zero]
theorem pm_multi (sub : List UInt8) (x : UInt8) (t : List UInt8) (hs : ∀ c ∈ sub, t7b c = true) (hs0 : sub ≠ []) (hsl : sub.length ≤ 100) (ht : ∀ c ∈ x :: t, t7b c = true) (htl : t.length ≤ 1000) (w : World) (hT : Tab w) :
    Calls Tryz.prog 87 #[str (mpS ++ sub ++ bdS ++ (x :: t))] w (PmPost (mpS ++ sub) [(bndK, x :: t)] w) := by
  have e1 : mpS ++ sub = multiS ++ 47 :: sub := by simp [mpS, multiS]
  have e2 : mpS ++ sub ++ bdS ++ (x :: t) = (multiS ++ 47 :: sub) ++ 59 :: (32 :: (bndK ++ 61 :: (x :: t))) := by rw [e1]; simp [bdS, bndK]
  obtain ⟨h1, h2, h3, h4⟩ := type_facts multiS sub (by decide) hs (by decide) hs0 (by simp [multiS]; omega) w hT
  have hml : (multiS ++ 47 :: sub).length = sub.length + 10 := by simp [multiS]
  have hrl : (32 :: (bndK ++ 61 :: (x :: t))).length = t.length + 11 := by simp [bndK]
  rw [e2, e1]
  clear e1 e2
  generalize multiS ++ 47 :: sub = base at *
  refine pm_walk _ base (32 :: (bndK ++ 61 :: (x :: t))) true w ?_ ?_ (fun W => zzCutM_some _ _ 59 W h4 (by omega)) h1 h2 h3 (parV (x :: t)) ?_ [(bndK, x :: t)] (.inr ⟨x, t, rfl, rfl, ht, htl⟩)
  · rw [List.length_append, List.length_cons]
    omega
  · exact (List.prefix_append _ _).length_le
  · rw [str_cut, List.drop_left]
    congr 2
    exact List.take_of_length_le (by rw [List.length_append, Nat.add_sub_cancel_left]; exact Nat.le_refl _)
end Go.Proofs.YtjbbapodcngnaaaGreatDoor
