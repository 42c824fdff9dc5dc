/- ReadHeaderOf, headed. -/
import Derived.Test.YtjbbapodcngnaaaDoorRhD
import Derived.Test.YtjbbapodcngnaaaDoorSegs
namespace Go.Proofs.YtjbbapodcngnaaaDoor
open Go.RowKit Hdr

theorem rest_len {w : World} {b g s : Nat} {src : ByteArray} {r q i : Nat} {err : Value} {lb lr p : Int} {data : List UInt8} (h : RdD w b g s src r q i err lb lr p data) : (rest src r q i data).length = (src.size - i) + (q - r) := by
  have h1 := h.hd
  have h2 := h.hrq
  have h3 := h.hq
  unfold rest
  rw [List.length_append, List.length_take, List.length_drop, List.length_drop, str_size]
  omega

/-- readHeader, whole. -/
theorem readHeader_any (b g s : Nat) (src : ByteArray) (ea : Addr) (w : World) (c : List UInt8) (h : Rd w b g s src c) (hs : Short c) (hlen : c.length ≤ 1000000) {N : Nat} (E : Env N b g s src ea w) :
    Calls Tryd.prog 34 #[.pointer (some ⟨b, 0, none⟩)] w (RhPost b g s src (rhd c) w) := by
  cases c with
  | nil =>
    have : rhd [] = some ([], []) := by
      unfold rhd
      rw [if_neg (by decide), rh_end (by rw [kv_nil]), kv_nil]
    rw [this]
    exact readHeader_nil b g s src ea w h E
  | cons x c =>
    cases hx : sp x with
    | true =>
      have : rhd (x :: c) = none := by unfold rhd; exact if_pos hx
      rw [this]
      exact readHeader_bad b g s src ea w x c h hx hs E
    | false =>
      have : rhd (x :: c) = rh (x :: c) := by unfold rhd; exact if_neg (by show ¬ sp x = true; rw [hx]; decide)
      rw [this]
      exact readHeader_some b g s src ea w x c h hx hs hlen E

/-- A header as the program holds it: its slice, its map, its fields. -/
def HdrAt (w : World) (lo : Nat) (hv : Value) (fs : List Fd) : Prop :=
  ∃ (lb cap : Nat) (m : Option Nat), hv = .agg #[.slice (some ⟨lb, 0, none⟩) fs.length cap, .map m] ∧ lo ≤ lb ∧ fs.length ≤ cap ∧ POwn w lb (fs.reverse.map (·.blk)) ∧ HMap w lo m fs.reverse ∧ Fds w lo w.heap.size fs

/-- What ReadHeaderOf leaves. -/
def RhoPost (r : Option (List PF × List UInt8)) (w : World) (e : Ending) (w' : World) : Prop :=
  Keeps No w w' ∧
  match r with
  | none => ∃ xa xn xc ym k ea, e = .returned (.tuple #[.agg #[.slice xa xn xc, .map ym], .int .i64 k, .iface 109 (.pointer (some ea))])
  | some (ps, c) => ∃ hv fs, e = .returned (.tuple #[hv, .int .i64 c.length, .nilIface]) ∧ HdrAt w' w.heap.size hv fs ∧ Tells fs ps

theorem HMap.to {S : Nat → Prop} {w w' : World} {lo lo' : Nat} {m : Option Nat} {fs : List Fd} (h : HMap w lo m fs) (k : Keeps S w w') (hS : ∀ x, S x → x < lo) (hl : lo' ≤ lo) : HMap w' lo' m fs := by
  rcases h with ⟨h1, h2⟩ | ⟨mb, gs, h1, h2, h3, h4⟩
  · exact .inl ⟨h1, h2⟩
  · refine .inr ⟨mb, gs, h1, by omega, h3.keep k (fun h => by have := hS _ h; omega), ?_⟩
    have h5 := h4.keep k (fun x hx b hb h => by
      have := ((h4.own x hx).lt b hb).1
      have := hS _ h
      omega)
    exact ⟨h5.keys, h5.apart, fun x hx => PS.mono (h5.own x hx) hl, h5.some_, h5.of, h5.all⟩
theorem FdAt.lower {w : World} {lo lo' hi : Nat} {f : Fd} (h : FdAt w lo hi f) (hl : lo' ≤ lo) : FdAt w lo' hi f := by
  refine ⟨Nat.le_trans hl h.ge, h.lt, h.B, ?_⟩
  have hR := h.R
  cases hr : f.raw with
  | none => rw [hr] at hR; exact hR
  | some l =>
    rw [hr] at hR
    obtain ⟨rb, ro, cp, e1, e2, e3, e4, e5, e6⟩ := hR
    exact ⟨rb, ro, cp, e1, e2, by omega, e4, e5, e6⟩
theorem Fds.lower {w : World} {lo lo' hi : Nat} {fs : List Fd} (h : Fds w lo hi fs) (hl : lo' ≤ lo) : Fds w lo' hi fs := fun f hf => (h f hf).lower hl

/-- What is handed back, laid open. -/
def RhRes (lo : Nat) (r : Option (List PF × List UInt8)) (xa : Option Addr) (xn xc : Nat) (ym : Option Nat) (ev : Value) (c2 : List UInt8) (w3 : World) : Prop :=
  match r with
  | none => ∃ ea, ev = .iface 109 (.pointer (some ea))
  | some (ps, c) => c = c2 ∧ ev = .nilIface ∧ ∃ (lb : Nat) (fs : List Fd), xa = some ⟨lb, 0, none⟩ ∧ xn = fs.length ∧ lo ≤ lb ∧ fs.length ≤ xc ∧ POwn w3 lb (fs.reverse.map (·.blk)) ∧ HMap w3 lo ym fs.reverse ∧
      Fds w3 lo w3.heap.size fs ∧ Tells fs ps
theorem rh_open {b g s : Nat} {src : ByteArray} {r : Option (List PF × List UInt8)} {w2 w3 : World} {e : Ending} (h : RhPost b g s src r w2 e w3) : ∃ xa xn xc ym ev c2, e = .returned (.tuple #[.agg #[.slice xa xn xc, .map ym], ev]) ∧ (ev = .nilIface ∨ ∃ ea, ev = .iface 109 (.pointer (some ea))) ∧ Rd w3 b g s src c2 ∧ RhRes w2.heap.size r xa xn xc ym ev c2 w3 := by
  obtain ⟨K3, hpost⟩ := h
  cases r with
  | none =>
    obtain ⟨xa, xn, xc, ym, ea2, c2, rfl, hRd⟩ := hpost
    exact ⟨xa, xn, xc, ym, _, c2, rfl, .inr ⟨ea2, rfl⟩, hRd, ea2, rfl⟩
  | some pc =>
    obtain ⟨ps, c2⟩ := pc
    obtain ⟨lb, cap, m, fs, rfl, hlb, hcap, hpo, hm, hf, ht, hRd⟩ := hpost
    exact ⟨_, _, _, _, _, c2, rfl, .inl rfl, hRd, rfl, rfl, lb, fs, rfl, rfl, hlb, hcap, hpo, hm, hf, ht⟩

theorem results_row_tmp2 {fn : Func} {p u v : Tmp} {ty : TypeId} (h : fn.results = #[.cell p ty, .tmp u, .tmp v]) (tmps : Array Value) {P : Program} (w : World) (g : Nat) (x : Value) (hp : tmps.getD p undef = .pointer (some ⟨g, 0, none⟩)) (hl : (loadVar ty ⟨g, 0, none⟩).run P w = .ok x w) :
    (results fn tmps).run P w = .ok (.tuple #[x, tmps.getD u undef, tmps.getD v undef]) w := by
  simp only [results, h]
  simp [Sem.run_bind, asAddr, Result.andThen]
  have hp' : tmps[p]?.getD undef = .pointer (some ⟨g, 0, none⟩) := by simpa using hp
  rw [hp']
  simp [hl]

set_option maxRecDepth 100000 in
set_option maxHeartbeats 1000000 in
theorem readHeaderOf_any (l : List UInt8) (ea : Addr) (w : World) (hs : Short l) (hlen : l.length ≤ 1000000) {N : Nat} (L : Laid N ea w) (hN : N ≤ w.heap.size) :
    Calls Tryd.prog 25 #[str l] w (RhoPost (rhd l) w) := by
  have HL := Lib.hid L
  have HS := Lib.hid hs
  generalize hr : rhd l = r
  have HR := Lib.hid hr
  clear L hs hr
  unfold str
  go_enter Tryd.func25, Tryd.ntmps25
  go_wp2_with (fail)
  refine (stringsNew_any ⟨l.toArray⟩ _).mono ?_
  rintro e w1 ⟨rfl, rfl⟩
  go_wp2_with (fail)
  refine (bufNew_any (w.heap.size + 1) _).mono ?_
  rintro e w2 ⟨b, g, rfl, hb, hg, hB, hG, K2⟩
  have hsz1 : ((w.alloc (.cells #[.slice none 0 0, .map none] 45)).alloc (.cells (src3 ⟨l.toArray⟩ 0 (-1)).toArray 95)).heap.size = w.heap.size + 2 := by simp
  have hS1 : Blk ((w.alloc (.cells #[.slice none 0 0, .map none] 45)).alloc (.cells (src3 ⟨l.toArray⟩ 0 (-1)).toArray 95)) (w.heap.size + 1) (src3 ⟨l.toArray⟩ 0 (-1)) 95 := by
    have := Blk.new (w.alloc (.cells #[.slice none 0 0, .map none] 45)) (src3 ⟨l.toArray⟩ 0 (-1)) 95
    simpa using this
  have hH1 : Blk ((w.alloc (.cells #[.slice none 0 0, .map none] 45)).alloc (.cells (src3 ⟨l.toArray⟩ 0 (-1)).toArray 95)) w.heap.size [.slice none 0 0, .map none] 45 := (Blk.new w _ _).alloc _
  have K1 : Keeps No w ((w.alloc (.cells #[.slice none 0 0, .map none] 45)).alloc (.cells (src3 ⟨l.toArray⟩ 0 (-1)).toArray 95)) := ((Keeps.refl No w).alloc _).alloc _
  rw [hsz1] at hb hg
  have hS2 := hS1.keep_no K2
  have hH2 := Lib.hid (hH1.keep_no K2)
  have K02 := K1.trans' K2
  clear hsz1 hS1 hH1 K1 K2
  have hsz2 := K02.size
  have hR2 : Rd w2 b g (w.heap.size + 1) ⟨l.toArray⟩ l := by
    refine ⟨0, 0, 0, -1, -1, -1, List.replicate 4096 0, ⟨List.length_replicate .., Nat.le_refl _, Nat.zero_le _, Nat.zero_le _, hB, hG, hS2⟩, ?_⟩
    unfold rest
    simp
  have hE2 : Env N b g (w.heap.size + 1) ⟨l.toArray⟩ ea w2 := ⟨by show l.toArray.size ≤ _; simp; omega, by omega, by omega, by omega, HL.out.keep_no K02⟩
  clear hB hG hS2
  go_wp2_with (fail)
  refine (readHeader_any b g (w.heap.size + 1) ⟨l.toArray⟩ ea w2 l hR2 HS.out hlen hE2).mono ?_
  rintro e w3 hpost
  have K3 := hpost.1
  have hH3 := hH2.out.keep K3 (fun h => by simp [In] at h; omega)
  have K03 : Keeps No w w3 := ((K02.of_no.trans' K3).mono (fun i hi h => by simp [In] at h; omega))
  rw [HR.out] at hpost
  have fz3 := hH3.frozen
  have c0 : w3.cell? ⟨w.heap.size, 0, none⟩ = some (.slice none 0 0) := hH3.cell 0
  have c1 : w3.cell? ⟨w.heap.size, 1, none⟩ = some (.map none) := hH3.cell 1
  have HH3 := Lib.hid hH3
  clear hH3 hH2
  have hrl : ∀ (c : List UInt8) (r q i : Nat) (err : Value) (lb lr p : Int) (data : List UInt8), RdD w3 b g (w.heap.size + 1) ⟨l.toArray⟩ r q i err lb lr p data → rest ⟨l.toArray⟩ r q i data = c → c.length = (l.length - i) + (q - r) := fun _ _ _ _ _ _ _ _ _ h hc => by
    rw [← hc, rest_len h]
    rfl
  have HRL := Lib.hid hrl
  clear hrl
  obtain ⟨xa, xn, xc, ym, ev, c2, rfl, hev, hRd, hres⟩ := rh_open hpost
  obtain ⟨r', q, i, lb', lr, p, data, hRD, hrest⟩ := hRd
  have hlen2 := HRL.out _ _ _ _ _ _ _ _ _ hRD hrest
  have h1 := hRD.hrq
  have h2 := hRD.hq
  have hls : (⟨l.toArray⟩ : ByteArray).size = l.length := by show l.toArray.size = _; simp
  have h3 : i ≤ l.length := by have := hRD.hi; rwa [hls] at this
  have HRD := Lib.hid hRD
  have HRES := Lib.hid hres
  have HLEN := Lib.hid hlen2
  have kk : ∀ x y n, Keeps (In [w.heap.size]) w3 (((w3.setCell ⟨w.heap.size, 0, none⟩ x).setCell ⟨w.heap.size, 1, none⟩ y).drewN n) := fun x y n => (((Keeps.refl _ w3).setCell (.inl (by simp [In])) _).setCell (.inl (by simp [In])) _).drewN n
  have hS4 := fun x y n => HRD.out.S.keep (kk x y n) (fun h => by simp [In] at h)
  have hB4 := fun x y n => HRD.out.B.keep (kk x y n) (fun h => by simp [In] at h; omega)
  have HS4 := Lib.hid hS4
  have HB4 := Lib.hid hB4
  clear hRD hrest hres hlen2 hS4 hB4 hpost
  go_wp2
  generalize hw4 : ((w3.setCell ⟨w.heap.size, 0, none⟩ (.slice xa xn xc)).setCell ⟨w.heap.size, 1, none⟩ (.map ym)) = w4
  have hH4 : Blk w4 w.heap.size [.slice xa xn xc, .map ym] 45 := by
    rw [← hw4]
    exact ((HH3.out.set 0 _).set 1 _).to rfl
  have k4 : ∀ n, Keeps (In [w.heap.size]) w3 (w4.drewN n) := fun n => by rw [← hw4]; exact kk _ _ n
  have hS4 := fun n => HS4.out (.slice xa xn xc) (.map ym) n
  have hB4 := fun n => HB4.out (.slice xa xn xc) (.map ym) n
  rw [hw4] at hS4 hB4
  have HH4 := Lib.hid hH4
  have HSS4 := Lib.hid hS4
  have HBB4 := Lib.hid hB4
  clear HS4 HB4 hw4 hH4 hS4 hB4 c0 c1 fz3 kk
  refine region_segs [([0, 1, 3, 6], 2), ([], 4), ([5], 7)] [8] 9 (fun W => W.cell? ⟨w.heap.size, 0, none⟩ = some (.slice xa xn xc) ∧ W.cell? ⟨w.heap.size, 1, none⟩ = some (.map ym)) (by kernel_rfl) (by kernel_rfl) ?_ ?_
  · exact ⟨HH4.out.cell 0, HH4.out.cell 1⟩
  simp only [segPick, List.map_cons, List.map_nil, pick, List.filterMap_cons, List.filterMap_nil, List.getElem?_cons_succ, List.getElem?_cons_zero, List.drop_succ_cons, List.drop_zero]
  rw [wpSegs]
  intro ι F hne hF
  have c1 := fun j => (hF j).1
  have c2 := fun j => (hF j).2
  clear hF
  repeat (quiet_step (fail))
  refine wpQuiet_nil ?_
  clear c1 c2 hne F ι
  go_wp2_with (fail)
  refine (readerLen_any (w.heap.size + 1) i ⟨l.toArray⟩ p w4.drew (HSS4.out 1) (by rw [hls]; exact h3) (by rw [hls]; omega)).mono ?_
  rintro e w5 ⟨rfl, n5, rfl⟩
  have hw5 : w4.drew.drewN n5 = w4.drewN (1 + n5) := World.drewN_drewN _ _ _
  rw [hw5, hls]
  go_wp2
  refine EffPost.intro ⟨HH4.out.cell 0, HH4.out.cell 1⟩ ?_
  rw [wpSegs]
  intro ι F hne hF
  clear hF
  repeat (quiet_step (fail))
  refine wpQuiet_nil ?_
  clear hne F ι
  go_wp2_with (fail)
  refine (buffered b (brc g (w.heap.size + 1) r' q .nilIface lb' lr) r' q (w4.drewN (1 + n5)) (HBB4.out _) rfl rfl h1 h2).mono ?_
  rintro e w6 ⟨rfl, n6, rfl⟩
  rw [World.drewN_drewN]
  have hsum1 : ((l.length : Int) - i) + ((q : Int) - r') = (c2.length : Int) := by have := HLEN.out; omega
  have hsum2 : IntKind.i64.wrap (((l.length : Int) - i) + ((q : Int) - r')) = (c2.length : Int) := by rw [hsum1]; exact wrap_small _ (by have := HLEN.out; omega)
  go_wp2
  refine EffPost.intro ⟨HH4.out.cell 0, HH4.out.cell 1⟩ ?_
  rw [wpSegs]
  intro ι F hne hF
  clear hF
  repeat (quiet_step (fail))
  refine wpQuiet_nil ?_
  clear hne F ι
  have fz6 := (HH4.out.drewN (1 + n5 + n6)).frozen
  have d0 : w4.cell? ⟨w.heap.size, 0, none⟩ = some (.slice xa xn xc) := HH4.out.cell 0
  have d1 : w4.cell? ⟨w.heap.size, 1, none⟩ = some (.map ym) := HH4.out.cell 1
  go_wp2
  generalize hw7 : (((w4.drewN (1 + n5 + n6)).setCell ⟨w.heap.size, 0, none⟩ (.slice xa xn xc)).setCell ⟨w.heap.size, 1, none⟩ (.map ym)) = w7
  have hH7 : Blk w7 w.heap.size [.slice xa xn xc, .map ym] 45 := by
    rw [← hw7]
    exact (((HH4.out.drewN _).set 0 _).set 1 _).to rfl
  have k7 : Keeps (In [w.heap.size]) w3 w7 := by
    rw [← hw7]
    exact ((k4 (1 + n5 + n6)).setCell (.inl (by simp [In])) _).setCell (.inl (by simp [In])) _
  have HH7 := Lib.hid hH7
  clear hw7 hH7 fz6 d0 d1
  refine EffPost.intro ⟨HH7.out.cell 0, HH7.out.cell 1⟩ ?_
  rw [wpSegs]
  intro ι F hne hF
  clear hF
  repeat (quiet_step (fail))
  refine wpQuiet_nil ?_
  clear hne F ι
  go_wp2
  refine bodyPost_ret (results_row_tmp2 rfl _ _ w.heap.size _ rfl (load_hdr _ _ _ _ HH7.out)) rfl ?_
  have hbw := hR2.lt
  refine ⟨(K03.of_no.trans' k7).mono (fun i hi h => by simp [In] at h; omega), ?_⟩
  have hres := HRES.out
  cases r with
  | none =>
    obtain ⟨ea2, rfl⟩ := hres
    exact ⟨xa, xn, xc, ym, _, ea2, rfl⟩
  | some pc =>
    obtain ⟨ps, c3⟩ := pc
    obtain ⟨rfl, rfl, lb, fs, rfl, rfl, hlb, hcap, hpo, hm, hf, ht⟩ := hres
    refine ⟨_, fs, rfl, ⟨lb, xc, ym, rfl, by omega, hcap, hpo.keep k7 (fun h => by simp [In] at h; omega), hm.to k7 (fun x h => by simp [In] at h; omega) hsz2, ?_⟩, ht⟩
    exact ((hf.keep k7 (fun x h => by simp [In] at h; omega)).lower hsz2).mono k7.size
end Go.Proofs.YtjbbapodcngnaaaDoor
