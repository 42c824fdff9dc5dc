/- bufio.Reader.Read over any source: a small read through the buffer; all together: a bufio.Reader is a source. Sources: stickyErrorReader over a source. Sources: countReader over a source. -/
import Derived.Test.YtjbbapodcngnaaaGreatDoorZsag
namespace Go.Proofs.YtjbbapodcngnaaaGreatDoor.G
open Go.RowKit Hdr

set_option maxRecDepth 100000 in
set_option maxHeartbeats 2000000 in
theorem bufRead_small (b g d o len cap : Nat) (X : Src) (cs : List Value) (w : World) (r : Nat) (s : List UInt8) (lb lr : Int) (data : List UInt8) (h : RdD w b g X r r s .nilIface lb lr data) (hd : Blk w d cs 5) (hnd : ¬ InX b g X d) (hlen : 0 < len) (hl4 : len < 4096) (_hcap : len ≤ cap) (hfit : o + len ≤ cs.length) (_hcs : cs.length ≤ 1000000)
    {N : Nat} (E : Env N b g X w) :
    Calls Tryz.prog 247 #[.pointer (some ⟨b, 0, none⟩), .slice (some ⟨d, o, none⟩) len cap] w (BrAny b g d o len X cs s w) := by
  obtain ⟨h0, h2, h3, h4, h5, h6⟩ := h.cells
  have h1 : w.cell? ⟨b, 1, none⟩ = some (.iface X.t X.v) := h.B.cell 1
  have fz := h.B.frozen
  have H := Lib.hid h
  have HD := Lib.hid hd
  have HE := Lib.hid E
  have hbd : b ≠ d := fun e => hnd (e ▸ InX.b _ _ _)
  have hgd : g ≠ d := fun e => hnd (e ▸ InX.g _ _ _)
  have hxd : ¬ X.own d := fun e => hnd (InX.own e)
  have hbg := h.bg
  have e1 : ((len : Int) == 0) = false := by simp; omega
  have e1' : (len == 0) = false := by simp; omega
  have e2 : decide ((4096 : Int) ≤ (len : Int)) = false := decide_eq_false (by omega)
  have e2' : decide (4096 ≤ len) = false := decide_eq_false (by omega)
  have hrq := h.hrq
  have hq := h.hq
  have hm := E.ok.meth
  have hen := E.ok.enter
  clear h hd E
  go_enter Tryz.func247, Tryz.ntmps247
  go_wp2
  go_quiet (fail)
  go_wp2
  generalize hw1 : (((w.drewN nq).setCell ⟨b, 2, none⟩ (.int .i64 0)).setCell ⟨b, 3, none⟩ (.int .i64 0)) = w1
  have hB1 : Blk w1 b (brc g X 0 0 .nilIface lb lr) 201 := by rw [← hw1]; exact (((H.out.B.drewN _).set 2 _).set 3 _).to (by simp [brc])
  have K1 : Keeps (In [b]) w w1 := by rw [← hw1]; exact (by repeat (first | assumption | exact Keeps.refl _ _ | apply Keeps.drewN | apply Keeps.drew | apply Keeps.alloc | (refine Keeps.setCell ?_ (.inl (by simp [In])) _)))
  have HB1 := Lib.hid hB1
  have fz1 := hB1.frozen
  clear hw1 hB1 h0 h1 h2 h3 h4 h5 h6 fz
  refine region_segs [([0, 1, 2, 3, 4, 5, 6, 7, 8, 9, 10], 11)] [12, 13, 14, 15, 16, 17] 18 (fun W => W.cell? ⟨b, 1, none⟩ = some (.iface X.t X.v) ∧ W.cell? ⟨b, 0, none⟩ = some (.slice (some ⟨g, 0, none⟩) 4096 4096)) (by kernel_rfl) (by kernel_rfl) ?_ ?_
  · exact ⟨HB1.out.cell 1, HB1.out.cell 0⟩
  simp only [segPick, List.map_cons, List.map_nil, pick, List.filterMap_cons, List.filterMap_nil, List.getElem?_cons_succ, List.getElem?_cons_zero, List.drop_succ_cons, List.drop_zero]
  rw [wpSegs]
  intro ι F hne hF
  have c1 := fun j => (hF j).1
  have c2 := fun j => (hF j).2
  clear hF
  repeat (quiet_step (fail))
  refine wpQuiet_nil ?_
  clear c1 c2 hne F ι
  go_wp2_with (fail)
  have S1 := X.keep H.out.S K1 (fun x hx hi => by simp only [In, List.mem_cons, List.not_mem_nil, or_false] at hi; subst hi; exact H.out.nb hx)
  have G1 := H.out.G.keep K1 (fun h => by simp only [In, List.mem_cons, List.not_mem_nil, or_false] at h; omega)
  have hdd := H.out.hd
  refine (HE.out.ok.read (g := g) (o := 0) (len := 4096) (cap := 4096) (X.drewN S1 _) (((HE.out.keepb K1).laid).keep_no ((Keeps.refl No _).drewN _)) (G1.drewN _) H.out.ng HE.out.hG (by omega) (by omega) (by rw [u8s_length, hdd]; omega) (by rw [u8s_length, hdd]; omega)).mono ?_
  rintro e w2 ⟨n, errv, rfl, hn3, hn2, hcase, hS2, B4, K2⟩
  have K2 := K2.drewN_left
  have KB2 : Keeps (InX b g X) w w2 := (Keeps.x1 K1).trans' (Keeps.xr K2)
  have B5 := HB1.out.keep K2 (fun h => by rcases h with h | h; exact H.out.nb h; exact hbg h)
  have D5 := HD.out.keep KB2 hnd
  have hn0 : decide ((n : Int) < 0) = false := by simp
  have hwn : IntKind.i64.wrap (n : Int) = n := IntWalk.i64_in _ (by omega)
  have hev : errv = .nilIface ∨ errv = (.iface 203 (.pointer (some X.ea))) := by rcases hcase with ⟨_, h⟩ | ⟨_, h⟩; exact .inl h; exact .inr h
  have G5 : Blk w2 g (u8s (s.take n ++ data.drop n)) 5 := B4.to (by simp [u8s_drop])
  have hdat : (s.take n ++ data.drop n).length = 4096 := by rw [List.length_append, List.length_take, List.length_drop, hdd]; omega
  generalize hdt : s.take n ++ data.drop n = data2 at *
  have htk : data2.take n = s.take n := by rw [← hdt, List.take_left' (by rw [List.length_take]; omega)]
  have HSS := Lib.hid hS2
  have HB5 := Lib.hid B5
  have HG5 := Lib.hid G5
  have HD5 := Lib.hid D5
  have HTK := Lib.hid htk
  have HDAT := Lib.hid hdat
  have HC := Lib.hid (show ∀ v, v = errv → (0 < n ∧ v = .nilIface ∨ n = s.length ∧ v = (.iface 203 (.pointer (some X.ea)))) from fun v hv => hv ▸ hcase)
  have hb51 : w2.cell? ⟨b, 1, none⟩ = some (.iface X.t X.v) := B5.cell 1
  have hb50 : w2.cell? ⟨b, 0, none⟩ = some (.slice (some ⟨g, 0, none⟩) 4096 4096) := B5.cell 0
  have HP := Lib.hid (And.intro hb51 hb50)
  clear hS2 B4 G5 D5 B5 hdt htk hdat hcase S1 G1 hdd hb51 hb50 fz1
  go_wp2
  refine EffPost.intro HP.out ?_
  rw [wpSegs]
  intro ι F hne hF
  clear hF
  repeat (quiet_step (fail))
  refine wpQuiet_nil ?_
  clear hne F ι
  have fz := HB5.out.frozen
  have h0 := HB5.out.cell 0
  have h2 := HB5.out.cell 2
  have h3 := HB5.out.cell 3
  have h4 := HB5.out.cell 4
  have h5 := HB5.out.cell 5
  have h6 := HB5.out.cell 6
  simp only [brc, List.getElem?_cons_zero, List.getElem?_cons_succ] at h0 h2 h3 h4 h5 h6
  have KD : Keeps (InD b g d X) w w2 := KB2.mono (fun _ _ h => .inl h)
  by_cases hn : n = 0
  · subst hn
    have hev : errv = (.iface 203 (.pointer (some X.ea))) ∧ s = [] := by
      rcases HC.out errv rfl with ⟨h, _⟩ | ⟨h, h2⟩
      · omega
      · exact ⟨h2, List.length_eq_zero_iff.1 h.symm⟩
    obtain ⟨rfl, hs⟩ := hev
    have HS := Lib.hid hs
    clear hs
    go_wp2_with (go_at_call 140; refine (readErr_any b _ _ _ (HB5.out.set 4 _) rfl).mono ?_; rintro e w3 ⟨rfl, rfl⟩)
    go_ret2
    refine ⟨0, _, rfl, by omega, by omega, .inr ⟨by rw [HS.out]; rfl, rfl⟩, ⟨0, 0, _, _, lb, lr, data2, ⟨HDAT.out, Nat.le_refl _, Nat.zero_le _, ((HB5.out.set 4 _).set 4 _).to rfl, (HG5.out.set_other hbg _).set_other hbg _, X.set (X.set HSS.out H.out.nb _) H.out.nb _, H.out.nb, H.out.ng, .inl rfl⟩, rest_same⟩, ?_, ?_⟩
    · have := (HD5.out.set_other (p := ⟨b, 4, none⟩) hbd (.iface 203 (.pointer (some X.ea)))).set_other (p := ⟨b, 4, none⟩) hbd .nilIface
      simpa using this
    · exact (KD.setCell (.inl (.inl (InX.b _ _ _))) _).setCell (.inl (.inl (InX.b _ _ _))) _
  · have e3 : ((n : Int) == 0) = false := by simp; omega
    have e3' : (n == 0) = false := by simp; omega
    obtain ⟨m, hm9⟩ : ∃ m, m = min len n := ⟨_, rfl⟩
    have hm1 : 0 < m := by omega
    have hm2 : m ≤ len := by omega
    have hm3 : m ≤ n := by omega
    have b2 : (n : Int) ≤ 4096 := by omega
    have hnew : (data2.take m).length = m := by have := HDAT.out; simp; omega
    have HN := Lib.hid hnew
    have HM := Lib.hid hm9
    obtain ⟨t1, ht1⟩ : ∃ t1 : Nat, m = t1 + 1 := ⟨m - 1, by omega⟩
    have hwm : IntKind.i64.wrap (m : Int) = m := IntWalk.i64_in _ (by omega)
    have hsub : (m : Int) - 1 = t1 := by omega
    have hwt1 : IntKind.i64.wrap (t1 : Int) = t1 := IntWalk.i64_in _ (by omega)
    have hsub2 : IntKind.i64.wrap ((m : Int) - 1) = t1 := by rw [hsub]; exact hwt1
    have ht1l : t1 < 4096 := by omega
    have b3 : (t1 : Int) < 4096 := by omega
    have b4 : (0 : Int) ≤ (t1 : Int) := by omega
    have HT1 := Lib.hid ht1
    clear hnew hm9 ht1
    have hb9 : ∀ v : Value, Blk ((w2.setCell ⟨b, 4, none⟩ v).setCell ⟨b, 3, none⟩ (.int .i64 n)) b (brc g X 0 n v lb lr) 201 := fun v => ((HB5.out.set 4 _).set 3 _).to rfl
    have hg9 : ∀ v : Value, Blk ((w2.setCell ⟨b, 4, none⟩ v).setCell ⟨b, 3, none⟩ (.int .i64 n)) g (u8s data2) 5 := fun v => (HG5.out.set_other hbg _).set_other hbg _
    have hs9 : ∀ v : Value, X.S ((w2.setCell ⟨b, 4, none⟩ v).setCell ⟨b, 3, none⟩ (.int .i64 n)) (s.drop n) := fun v => X.set (X.set HSS.out H.out.nb _) H.out.nb _
    have hd9 : ∀ v : Value, Blk ((w2.setCell ⟨b, 4, none⟩ v).setCell ⟨b, 3, none⟩ (.int .i64 n)) d cs 5 := fun v => (HD5.out.set_other hbd _).set_other hbd _
    have hk9 : ∀ v : Value, Keeps (InD b g d X) w ((w2.setCell ⟨b, 4, none⟩ v).setCell ⟨b, 3, none⟩ (.int .i64 n)) := fun v => (KD.setCell (.inl (.inl (InX.b _ _ _))) _).setCell (.inl (.inl (InX.b _ _ _))) _
    have hr9 : RdD ((w2.setCell ⟨b, 4, none⟩ errv).setCell ⟨b, 3, none⟩ (.int .i64 n)) b g X 0 n (s.drop n) errv lb lr data2 :=
      ⟨HDAT.out, Nat.zero_le _, hn3, hb9 _, hg9 _, hs9 _, H.out.nb, H.out.ng, by
        rcases HC.out errv rfl with ⟨_, h⟩ | ⟨h, h2⟩
        · exact .inl h
        · exact .inr ⟨h2, List.drop_eq_nil_of_le (by omega)⟩⟩
    have HR9 := Lib.hid hr9
    have HD9 := Lib.hid (hd9 errv)
    have HK9 := Lib.hid (hk9 errv)
    clear hb9 hg9 hs9 hd9 hk9 hr9
    rcases hev with rfl | rfl
    all_goals
      go_wp2
      have fz := HR9.out.B.frozen
      refine region_tail 14 (by kernel_rfl) (by kernel_rfl) ?_
      simp only [List.take_succ_cons, List.take_zero, List.drop_succ_cons, List.drop_zero]
      repeat still_step
      refine wpStill_nil ?_
      refine wpList_copy_cells rfl (.tmp 109) (.tmp 122) 85 85 rfl 5 Tryz.underlying85 (by kernel_rfl) d o len cap _ n 4096 rfl rfl cs 5 HD9.out.drew (u8s (data2.take m)) ?hn ?hsrc ?hfit (u8s_one _) ?_
      case hn => have := HN.out; have := HM.out; rw [u8s_length]; omega
      case hfit => have := HN.out; rw [u8s_length]; omega
      case hsrc =>
        have hb2 := HR9.out.bytes.cut 0 m (cap := 4096) (by rw [HDAT.out]; exact Nat.le_refl _)
        rw [List.drop_zero] at hb2
        exact ⟨_, rfl, (hb2.keep (S := No) (Keeps.refl No _).drew (fun h => h)).cells⟩
      rw [u8s_length, HN.out]
      intro W1 B1 K1'
      have R1 : RdD W1 b g X 0 n (s.drop n) _ lb lr data2 := ⟨HDAT.out, Nat.zero_le _, hn3, HR9.out.B.drew.keep K1' (fun h => by simp only [In, List.mem_cons, List.not_mem_nil, or_false] at h; omega), HR9.out.G.drew.keep K1' (fun h => by simp only [In, List.mem_cons, List.not_mem_nil, or_false] at h; omega), X.keep (X.keep_no HR9.out.S (Keeps.refl No _).drew) K1' (fun x hx hi => by simp only [In, List.mem_cons, List.not_mem_nil, or_false] at hi; subst hi; exact hxd hx), H.out.nb, H.out.ng, HR9.out.he⟩
      have HR := Lib.hid R1
      clear h0 h2 h3 h4 h5 h6 fz
      obtain ⟨h0, h2, h3, h4, h5, h6⟩ := R1.cells
      have fz := R1.B.frozen
      have hx := R1.at_ t1 ht1l
      generalize data2[t1]'(by rw [R1.hd]; exact ht1l) = xx at hx
      unfold byt at hx
      have hw := w64_u8 xx
      clear R1
      go_wp2
      refine region_mid 15 (by kernel_rfl) (by kernel_rfl) ?_
      simp only [List.take_succ_cons, List.take_zero, List.drop_succ_cons, List.drop_zero]
      repeat (quiet_step (fail))
      refine wpQuiet_nil ?_
      intro wq hwq
      obtain ⟨nq, rfl⟩ := hwq
      go_wp2
      go_ret2
      have hmn := HM.out
      refine ⟨m, .nilIface, rfl, by omega, by omega, .inl ⟨hm1, rfl⟩, ⟨m, n, s.drop n, _, xx.toNat, -1, data2, HR.out.to (by repeat (first | assumption | exact Keeps.refl _ _ | apply Keeps.drewN | apply Keeps.drew | apply Keeps.alloc | (refine Keeps.setCell ?_ (.inl (by simp [In])) _))) hm3 (by omega) ?_, ?_⟩, ?_, ?_⟩
      · exact ((((HR.out.B.set 2 _).drewN _).set 5 _).set 6 _).to (by simp [brc])
      · have h9 : rest (s.drop n) 0 n data2 = s := by
          unfold rest
          rw [List.drop_zero, Nat.sub_zero, HTK.out, List.take_append_drop]
        have h8 := rest_drop HR.out m (by omega)
        rw [h9, Nat.zero_add] at h8
        exact h8.symm
      · have h9 : data2.take m = s.take m := by
          have := congrArg (List.take m) HTK.out
          rwa [List.take_take, List.take_take, Nat.min_eq_left hm3] at this
        rw [← h9]
        exact (((B1.out.set_other hbd _).drewN _).set_other hbd _).set_other hbd _
      · have k1 : Keeps (InD b g d X) w W1 := HK9.out.drew.trans' (K1'.mono (fun x _ h => by simp [In] at h; exact .inr h))
        exact (((k1.setCell (.inl (.inl (InX.b _ _ _))) _).drewN _).setCell (.inl (.inl (InX.b _ _ _))) _).setCell (.inl (.inl (InX.b _ _ _))) _

theorem bufRead_any (b g d o len cap : Nat) (X : Src) (cs : List Value) (w : World) (c : List UInt8) (h : Rd w b g X c) (hd : Blk w d cs 5) (hnd : ¬ InX b g X d) (hlen : 0 < len) (hcap : len ≤ cap) (hfit : o + len ≤ cs.length) (hcs : cs.length ≤ 1000000)
    {N : Nat} (E : Env N b g X w) (hdN : N ≤ d) :
    Calls Tryz.prog 247 #[.pointer (some ⟨b, 0, none⟩), .slice (some ⟨d, o, none⟩) len cap] w (BrAny b g d o len X cs c w) := by
  obtain ⟨r, q, s, err, lb, lr, data, h, hc⟩ := h
  by_cases hlt : r < q
  · refine (bufRead_buf b g d o len cap X cs w c (q - r) ⟨r, q, s, err, lb, lr, data, h, hc, rfl⟩ (by omega) hd hnd hlen hcap hfit hcs).mono ?_
    rintro e w' ⟨rfl, hb, hB, K⟩
    have hl := hb.le
    have h9 := rest_len h
    rw [hc] at h9
    exact ⟨min len (q - r), _, rfl, Nat.min_le_left _ _, by omega, .inl ⟨by omega, rfl⟩, hb.rd, hB, K⟩
  · have hrq := h.hrq
    obtain rfl : r = q := by omega
    have hsc := rest_eq hc
    subst hsc
    rcases h.he with rfl | ⟨rfl, hs⟩
    · by_cases h4 : len < 4096
      · exact bufRead_small b g d o len cap X cs w r s lb lr data h hd hnd hlen h4 hcap hfit hcs E
      · exact bufRead_great b g d o len cap X cs w r s lb lr data h hd hnd (by omega) hcap hfit hcs E hdN
    · have hs' := hs
      subst hs'
      exact bufRead_end b g d o len cap X cs w r [] lb lr data h rfl hd hnd hlen

/-- A bufio.Reader over a source is a source. -/
def bufSrc (b g : Nat) (X : Src) : Src where
  ea := X.ea
  t := 150
  v := .pointer (some ⟨b, 0, none⟩)
  f := 247
  recv := .pointer (some ⟨b, 0, none⟩)
  own := InX b g X
  S := fun w s => Rd w b g X s ∧ s.length ≤ 1000000000
  keep := fun h k hS => ⟨h.1.keep k hS, h.2⟩
  lt := fun h hx => h.1.lt _ hx
  small := fun h => h.2

theorem method_buf (b : Nat) (w : World) : (method 477 150 (.pointer (some ⟨b, 0, none⟩)) "Read").run Tryz.prog w = .ok (247, .pointer (some ⟨b, 0, none⟩)) w := by kernel_rfl
theorem enter_buf (args : Array Value) (w : World) : (callFunc 247 args).run Tryz.prog w = .ok (.enter 247 args) w := by kernel_rfl

theorem bufSrc_ok {b g : Nat} {X : Src} {N : Nat} (O : X.Ok N) (hB : N ≤ b) (hG : N ≤ g) : (bufSrc b g X).Ok N where
  meth := method_buf b
  enter := enter_buf
  old := fun hx => by
    rcases hx with rfl | rfl | hx
    · exact hB
    · exact hG
    · exact O.old hx
  read := fun {w s d o len cap cs} hS L hd hnd hdN hlen hcap hfit hcs => by
    refine (bufRead_any b g d o len cap X cs w s hS.1 hd hnd hlen hcap hfit hcs ⟨O, hB, hG, L⟩ hdN).mono ?_
    rintro e w' ⟨n, err, rfl, h1, h2, h3, h4, h5, h6⟩
    exact ⟨n, err, rfl, h1, h2, h3, ⟨h4, by rw [List.length_drop]; have := hS.2; omega⟩, h5, h6⟩
end Go.Proofs.YtjbbapodcngnaaaGreatDoor.G
namespace Go.Proofs.YtjbbapodcngnaaaGreatDoor.G
open Go.RowKit Hdr

/-- The blocks of a source, and one more. -/
def InO (k : Nat) (X : Src) : Nat → Prop := fun x => x = k ∨ X.own x

/-- A stickyErrorReader at block k over a source: s is still to come. -/
def StickyS (k : Nat) (X : Src) (w : World) (s : List UInt8) : Prop :=
  ∃ err : Value, Blk w k [.iface X.t X.v, err] 256 ∧ X.S w s ∧ ¬ X.own k ∧ (err = .nilIface ∨ err = (.iface 203 (.pointer (some X.ea))) ∧ s = [])

theorem StickyS.keep {T : Nat → Prop} {k : Nat} {X : Src} {w w' : World} {s : List UInt8} (h : StickyS k X w s) (K : Keeps T w w') (hS : ∀ x, InO k X x → ¬ T x) : StickyS k X w' s := by
  obtain ⟨err, h1, h2, h3, h4⟩ := h
  exact ⟨err, h1.keep K (hS _ (.inl rfl)), X.keep h2 K (fun x hx => hS x (.inr hx)), h3, h4⟩

set_option maxRecDepth 100000 in
set_option maxHeartbeats 1000000 in
theorem stickyRead_any (k : Nat) (X : Src) {N : Nat} (O : X.Ok N) (d o len cap : Nat) (cs : List Value) (w : World) (s : List UInt8) (h : StickyS k X w s) (L : Laid N X.ea w) (hd : Blk w d cs 5) (hnd : ¬ InO k X d) (hdN : N ≤ d) (hlen : 0 < len) (hcap : len ≤ cap) (hfit : o + len ≤ cs.length) (hcs : cs.length ≤ 1000000) :
    Calls Tryz.prog 272 #[.pointer (some ⟨k, 0, none⟩), .slice (some ⟨d, o, none⟩) len cap] w fun e w' =>
      ∃ (n : Nat) (err : Value), e = .returned (.tuple #[.int .i64 n, err]) ∧ n ≤ len ∧ n ≤ s.length ∧ (0 < n ∧ err = .nilIface ∨ n = s.length ∧ err = (.iface 203 (.pointer (some X.ea)))) ∧ StickyS k X w' (s.drop n) ∧
        Blk w' d (cs.take o ++ u8s (s.take n) ++ cs.drop (o + n)) 5 ∧ Keeps (fun x => InO k X x ∨ x = d) w w' := by
  obtain ⟨err, hB, hS, hk, he⟩ := h
  have c0 : w.cell? ⟨k, 0, none⟩ = some (.iface X.t X.v) := hB.cell 0
  have c1 : w.cell? ⟨k, 1, none⟩ = some err := hB.cell 1
  have fz := hB.frozen
  have hm := O.meth
  have hen := O.enter
  have hkd : k ≠ d := fun e => hnd (.inl e.symm)
  have hxd : ¬ X.own d := fun e => hnd (.inr e)
  have HB := Lib.hid hB
  have HS := Lib.hid hS
  have HO := Lib.hid O
  have HL := Lib.hid L
  have HD := Lib.hid hd
  have HK := Lib.hid hk
  clear hB hS O L hd hk
  rcases he with rfl | ⟨rfl, hs⟩
  · go_enter Tryz.func272, Tryz.ntmps272
    go_wp2_with (fail)
    refine (HO.out.read (g := d) (o := o) (len := len) (cap := cap) HS.out HL.out HD.out hxd hdN hlen hcap hfit hcs).mono ?_
    rintro e w2 ⟨n, errv, rfl, hn3, hn2, hcase, hS2, B4, K2⟩
    have hev : errv = .nilIface ∨ errv = (.iface 203 (.pointer (some X.ea))) := by rcases hcase with ⟨_, h⟩ | ⟨_, h⟩; exact .inl h; exact .inr h
    have HC := Lib.hid (show ∀ v, v = errv → (0 < n ∧ v = .nilIface ∨ n = s.length ∧ v = (.iface 203 (.pointer (some X.ea)))) from fun v hv => hv ▸ hcase)
    have B5 := HB.out.keep K2 (fun h => by rcases h with h | h; exact HK.out h; exact hkd h)
    have fz5 := B5.frozen
    have c5 : w2.cell? ⟨k, 1, none⟩ = some .nilIface := B5.cell 1
    have HB5 := Lib.hid B5
    have HS2 := Lib.hid hS2
    have HB4 := Lib.hid B4
    have KD : Keeps (fun x => InO k X x ∨ x = d) w w2 := K2.mono (fun _ _ h => by rcases h with h | h; exact .inl (.inr h); exact .inr h)
    clear B5 hS2 B4 hcase
    rcases hev with rfl | rfl
    all_goals
      go_wp2
      go_quiet (fail)
      go_wp2
      go_ret2
      refine ⟨n, _, rfl, hn3, hn2, HC.out _ rfl, ⟨_, ((HB5.out.set 1 _).drewN _).to rfl, X.drewN (X.set HS2.out HK.out _) _, HK.out, ?_⟩, ((HB4.out.set_other hkd _).drewN _), (KD.setCell (.inl (.inl (.inl rfl))) _).drewN _⟩
      rcases HC.out _ rfl with ⟨_, h⟩ | ⟨h, h2⟩
      · exact .inl h
      · exact .inr ⟨h2, List.drop_eq_nil_of_le (by omega)⟩
  · have HSN := Lib.hid hs
    clear hs
    go_enter Tryz.func272, Tryz.ntmps272
    go_wp2
    go_quiet (fail)
    go_wp2
    go_ret2
    refine ⟨0, _, rfl, by omega, by omega, .inr ⟨by rw [HSN.out]; rfl, rfl⟩, ⟨_, HB.out.drewN _, X.drewN (by simpa using HS.out) _, HK.out, .inr ⟨rfl, by rw [HSN.out]; rfl⟩⟩, ?_, (Keeps.refl _ w).drewN _⟩
    have := HD.out.drewN nq
    simpa using this

/-- A stickyErrorReader over a source is a source. -/
def stickySrc (k : Nat) (X : Src) : Src where
  ea := X.ea
  t := 254
  v := .pointer (some ⟨k, 0, none⟩)
  f := 272
  recv := .pointer (some ⟨k, 0, none⟩)
  own := InO k X
  S := StickyS k X
  keep := fun h k hS => h.keep k hS
  lt := fun h hx => by
    obtain ⟨err, h1, h2, _⟩ := h
    rcases hx with rfl | hx
    · exact h1.lt
    · exact X.lt h2 hx
  small := fun h => by
    obtain ⟨err, h1, h2, _⟩ := h
    exact X.small h2

theorem method_sticky (k : Nat) (w : World) : (method 477 254 (.pointer (some ⟨k, 0, none⟩)) "Read").run Tryz.prog w = .ok (272, .pointer (some ⟨k, 0, none⟩)) w := by kernel_rfl
theorem enter_sticky (args : Array Value) (w : World) : (callFunc 272 args).run Tryz.prog w = .ok (.enter 272 args) w := by kernel_rfl
theorem sticky_notBuf (k : Nat) (w : World) : (Instr.typeAssert (.iface 254 (.pointer (some ⟨k, 0, none⟩))) 131 150 true).run Tryz.prog w = .ok (.tuple #[.pointer none, .bool false]) w := by kernel_rfl

theorem stickySrc_ok {k : Nat} {X : Src} {N : Nat} (O : X.Ok N) (hK : N ≤ k) : (stickySrc k X).Ok N where
  meth := method_sticky k
  enter := enter_sticky
  old := fun hx => by
    rcases hx with rfl | hx
    · exact hK
    · exact O.old hx
  read := fun {w s d o len cap cs} hS L hd hnd hdN hlen hcap hfit hcs => stickyRead_any k X O d o len cap cs w s hS L hd hnd hdN hlen hcap hfit hcs
end Go.Proofs.YtjbbapodcngnaaaGreatDoor.G
namespace Go.Proofs.YtjbbapodcngnaaaGreatDoor.G
open Go.RowKit Hdr

/-- How many line feeds. -/
def lfs (l : List UInt8) : Nat := l.countP (· == 10)
theorem lfs_append (a b : List UInt8) : lfs (a ++ b) = lfs a + lfs b := List.countP_append
theorem lfs_le (l : List UInt8) : lfs l ≤ l.length := List.countP_le_length

set_option maxRecDepth 100000 in
set_option maxHeartbeats 1000000 in
theorem lineFeeds_any (d o n cap : Nat) (l : List UInt8) (hn : l.length = n) (w : World) (h : BytesAt w d o l) (hl : n ≤ 1000000000) :
    Calls Tryz.prog 260 #[.slice (some ⟨d, o, none⟩) n cap] w fun e w' => e = .returned (.int .u32 (lfs l : Nat)) ∧ w' = w := by
  have H := Lib.hid h
  have HN := Lib.hid hn
  clear h
  go_enter Tryz.func260, Tryz.ntmps260
  go_wp2
  go_loopg [3, 8] n (fun k s3 s8 wr => ∃ i : Nat, s8 = .int .i64 i ∧ s3 = .int .u32 (lfs (l.take i) : Nat) ∧ i + k = n ∧ w = wr)
  case atStart => exact ⟨0, rfl, rfl, by omega, rfl⟩
  case round =>
    obtain ⟨i, rfl, rfl, hk, rfl⟩ := hrel
    by_cases hi : i < n
    · have hil : i < l.length := by have := HN.out; omega
      have hx := H.out.cell hil
      have htk : l.take (i + 1) = l.take i ++ [l[i]] := List.take_succ_eq_append_getElem hil
      have hlt : (i : Int) < (n : Int) := by omega
      have hle := lfs_le (l.take i)
      have hle2 : (l.take i).length ≤ n := by rw [List.length_take]; omega
      generalize l[i] = cc at *
      have HTK := Lib.hid htk
      generalize hq : lfs (l.take i) = q at *
      have HQ := Lib.hid hq
      have HK := Lib.hid hk
      unfold byt at hx
      have hw1 : IntKind.u32.wrap ((q : Int) + 1) = ((q + 1 : Nat) : Int) := by
        have : ((q : Int) + 1) = ((q + 1 : Nat) : Int) := by omega
        rw [this]
        unfold IntKind.wrap
        simp [IntKind.bits, IntKind.signed]
        omega
      clear hk htk hq
      by_cases hc : cc = 10
      · subst hc
        have e10 : (((10 : UInt8).toNat : Nat) : Int) = 10 := rfl
        rw [e10] at hx
        go_wp2
        go_roundg (gk - 1)
        case measure => have := HK.out; omega
        case rel =>
          refine ⟨i + 1, by simp, ?_, by have := HK.out; omega, rfl⟩
          rw [HTK.out, lfs_append, HQ.out]
          rfl
      · have hcn : cc.toNat ≠ 10 := fun e => hc (UInt8.toNat.inj e)
        have e1 : ((cc.toNat : Int) == 10) = false := by simp; omega
        have HC := Lib.hid hc
        clear hc hcn
        go_wp2
        go_roundg (gk - 1)
        case measure => have := HK.out; omega
        case rel =>
          refine ⟨i + 1, by simp, ?_, by have := HK.out; omega, rfl⟩
          rw [HTK.out, lfs_append, HQ.out]
          have : lfs [cc] = 0 := by simp [lfs, HC.out]
          rw [this, Nat.add_zero]
    · have hin : i = n := by omega
      subst hin
      have htl : l.take i = l := List.take_of_length_le (by have := HN.out; omega)
      rw [htl]
      go_wp2
      go_ret
      exact ⟨rfl, rfl⟩
end Go.Proofs.YtjbbapodcngnaaaGreatDoor.G
