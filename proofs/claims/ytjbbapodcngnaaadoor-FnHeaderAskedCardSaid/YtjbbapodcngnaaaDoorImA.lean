/- impl.headed; the fields of a header, one by one. -/
import Derived.Test.YtjbbapodcngnaaaDoorRhE
namespace Go.Proofs.YtjbbapodcngnaaaDoor
open Go.RowKit Hdr

/-- What headed leaves. -/
def HeadPost (r : Option (List PF × List UInt8)) (w : World) (e : Ending) (w' : World) : Prop :=
  Keeps No w w' ∧
  match r with
  | none => ∃ xa xn xc ym k, e = .returned (.tuple #[.agg #[.slice xa xn xc, .map ym], .int .i64 k, .bool false])
  | some (ps, c) => ∃ hv fs, e = .returned (.tuple #[hv, .int .i64 c.length, .bool true]) ∧ HdrAt w' w.heap.size hv fs ∧ Tells fs ps

def RhoRes (lo : Nat) (r : Option (List PF × List UInt8)) (xa : Option Addr) (xn xc : Nat) (ym : Option Nat) (k : Int) (w3 : World) : Prop :=
  match r with
  | none => True
  | some (ps, c) => k = c.length ∧ ∃ fs, HdrAt w3 lo (.agg #[.slice xa xn xc, .map ym]) fs ∧ Tells fs ps
theorem rho_open {r : Option (List PF × List UInt8)} {w w' : World} {e : Ending} (h : RhoPost r w e w') : ∃ xa xn xc ym k ev, e = .returned (.tuple #[.agg #[.slice xa xn xc, .map ym], .int .i64 k, ev]) ∧ Keeps No w w' ∧
    ((ev = .nilIface ∧ r.isSome = true) ∨ ((∃ ea, ev = .iface 109 (.pointer (some ea))) ∧ r.isSome = false)) ∧ RhoRes w.heap.size r xa xn xc ym k w' := by
  obtain ⟨K, h⟩ := h
  cases r with
  | none =>
    obtain ⟨xa, xn, xc, ym, k, ea, rfl⟩ := h
    exact ⟨xa, xn, xc, ym, k, _, rfl, K, .inr ⟨⟨ea, rfl⟩, rfl⟩, trivial⟩
  | some pc =>
    obtain ⟨ps, c⟩ := pc
    obtain ⟨hv, fs, rfl, hh, ht⟩ := h
    have hh' := hh
    obtain ⟨lb, cap, m, rfl, _⟩ := hh'
    exact ⟨_, _, _, _, _, _, rfl, K, .inl ⟨rfl, rfl⟩, rfl, fs, hh, ht⟩

theorem HdrAt.to {S : Nat → Prop} {w w' : World} {lo lo' : Nat} {hv : Value} {fs : List Fd} (h : HdrAt w lo hv fs) (k : Keeps S w w') (hS : ∀ x, S x → x < lo) (hl : lo' ≤ lo) : HdrAt w' lo' hv fs := by
  obtain ⟨lb, cap, m, h1, h2, h3, h4, h5, h6⟩ := h
  exact ⟨lb, cap, m, h1, by omega, h3, h4.keep k (fun h => by have := hS _ h; omega), h5.to k hS hl, ((h6.keep k (fun x h => .inl (hS x h))).lower hl).mono k.size⟩

set_option maxRecDepth 100000 in
set_option maxHeartbeats 1000000 in
theorem headed_any (l : List UInt8) (ea : Addr) (w : World) (hs : Short l) (hlen : l.length ≤ 1000000) {N : Nat} (L : Laid N ea w) (hN : N ≤ w.heap.size) :
    Calls Tryd.prog 14 #[str l] w (HeadPost (rhd l) w) := by
  have HL := Lib.hid L
  have HS := Lib.hid hs
  generalize hr : rhd l = r
  have HR := Lib.hid hr
  clear L hs hr
  unfold str
  go_enter Tryd.func14, Tryd.ntmps14
  go_wp2_with (fail)
  refine (readHeaderOf_any l ea _ HS.out hlen (HL.out.keep_no ((Keeps.refl No w).alloc _)) (by simp; omega)).mono ?_
  rintro e w1 hpost
  rw [HR.out] at hpost
  obtain ⟨xa, xn, xc, ym, k, ev, rfl, K, hev, hres⟩ := rho_open hpost
  have hH1 : Blk w1 w.heap.size [.slice none 0 0, .map none] 45 := (Blk.new w _ _).keep_no K
  have fz1 := hH1.frozen
  have c0 : w1.cell? ⟨w.heap.size, 0, none⟩ = some (.slice none 0 0) := hH1.cell 0
  have c1 : w1.cell? ⟨w.heap.size, 1, none⟩ = some (.map none) := hH1.cell 1
  have HH1 := Lib.hid hH1
  have HRES := Lib.hid hres
  clear hH1 hres hpost
  have K01 : Keeps No w w1 := ((Keeps.refl No w).alloc _).trans' K
  rcases hev with ⟨rfl, hr0⟩ | ⟨⟨ea2, rfl⟩, hr0⟩
  · go_wp2
    generalize hw4 : ((w1.setCell ⟨w.heap.size, 0, none⟩ (.slice xa xn xc)).setCell ⟨w.heap.size, 1, none⟩ (.map ym)) = w4
    have hH4 : Blk w4 w.heap.size [.slice xa xn xc, .map ym] 45 := by
      rw [← hw4]
      exact ((HH1.out.set 0 _).set 1 _).to rfl
    have k4 : Keeps (In [w.heap.size]) w1 w4 := by
      rw [← hw4]
      exact ((Keeps.refl _ w1).setCell (.inl (by simp [In])) _).setCell (.inl (by simp [In])) _
    have fz4 := hH4.frozen
    have d0 : w4.cell? ⟨w.heap.size, 0, none⟩ = some (.slice xa xn xc) := hH4.cell 0
    have d1 : w4.cell? ⟨w.heap.size, 1, none⟩ = some (.map ym) := hH4.cell 1
    have HH4 := Lib.hid hH4
    clear hH4 hw4
    refine region_segs [([0, 1, 2, 3], 4)] [5] 6 (fun W => W.cell? ⟨w.heap.size, 0, none⟩ = some (.slice xa xn xc) ∧ W.cell? ⟨w.heap.size, 1, none⟩ = some (.map ym)) (by kernel_rfl) (by kernel_rfl) ?_ ?_
    · exact ⟨HH4.out.cell 0, HH4.out.cell 1⟩
    simp only [segPick, List.map_cons, List.map_nil, pick, List.filterMap_cons, List.filterMap_nil, List.getElem?_cons_succ, List.getElem?_cons_zero, List.drop_succ_cons, List.drop_zero]
    rw [wpSegs]
    intro ι F hne hF
    have c1 := fun j => (hF j).1
    have c2 := fun j => (hF j).2
    clear hF
    repeat (quiet_step (fail))
    refine wpQuiet_nil ?_
    clear c1 c2 hne F ι
    go_wp2
    have hH7 : Blk ((w4.drew.setCell ⟨w.heap.size, 0, none⟩ (.slice xa xn xc)).setCell ⟨w.heap.size, 1, none⟩ (.map ym)) w.heap.size [.slice xa xn xc, .map ym] 45 := ((HH4.out.drew.set 0 _).set 1 _).to rfl
    have k7 : Keeps (In [w.heap.size]) w1 ((w4.drew.setCell ⟨w.heap.size, 0, none⟩ (.slice xa xn xc)).setCell ⟨w.heap.size, 1, none⟩ (.map ym)) := (k4.drew.setCell (.inl (by simp [In])) _).setCell (.inl (by simp [In])) _
    refine EffPost.intro ⟨hH7.cell 0, hH7.cell 1⟩ ?_
    rw [wpSegs]
    intro ι F hne hF
    clear hF
    repeat (quiet_step (fail))
    refine wpQuiet_nil ?_
    clear hne F ι
    have HH7 := Lib.hid hH7
    clear hH7
    go_wp2
    refine bodyPost_ret (results_row_tmp2 rfl _ _ w.heap.size _ rfl (load_hdr _ _ _ _ HH7.out)) rfl ?_
    refine ⟨(K01.of_no.trans' k7).mono (fun i hi h => by simp [In] at h; omega), ?_⟩
    have hres := HRES.out
    cases r with
    | none => cases hr0
    | some pc =>
      obtain ⟨ps, c⟩ := pc
      obtain ⟨rfl, fs, hh, ht⟩ := hres
      exact ⟨_, fs, rfl, hh.to k7 (fun x h => by simp [In] at h; simp; omega) (by simp), ht⟩
  · go_wp2
    generalize hw4 : ((w1.setCell ⟨w.heap.size, 0, none⟩ (.slice xa xn xc)).setCell ⟨w.heap.size, 1, none⟩ (.map ym)) = w4
    have hH4 : Blk w4 w.heap.size [.slice xa xn xc, .map ym] 45 := by
      rw [← hw4]
      exact ((HH1.out.set 0 _).set 1 _).to rfl
    have k4 : Keeps (In [w.heap.size]) w1 w4 := by
      rw [← hw4]
      exact ((Keeps.refl _ w1).setCell (.inl (by simp [In])) _).setCell (.inl (by simp [In])) _
    have fz4 := hH4.frozen
    have d0 : w4.cell? ⟨w.heap.size, 0, none⟩ = some (.slice xa xn xc) := hH4.cell 0
    have d1 : w4.cell? ⟨w.heap.size, 1, none⟩ = some (.map ym) := hH4.cell 1
    have HH4 := Lib.hid hH4
    clear hH4 hw4
    refine region_segs [([0, 1, 2, 3], 4)] [5] 6 (fun W => W.cell? ⟨w.heap.size, 0, none⟩ = some (.slice xa xn xc) ∧ W.cell? ⟨w.heap.size, 1, none⟩ = some (.map ym)) (by kernel_rfl) (by kernel_rfl) ?_ ?_
    · exact ⟨HH4.out.cell 0, HH4.out.cell 1⟩
    simp only [segPick, List.map_cons, List.map_nil, pick, List.filterMap_cons, List.filterMap_nil, List.getElem?_cons_succ, List.getElem?_cons_zero, List.drop_succ_cons, List.drop_zero]
    rw [wpSegs]
    intro ι F hne hF
    have c1 := fun j => (hF j).1
    have c2 := fun j => (hF j).2
    clear hF
    repeat (quiet_step (fail))
    refine wpQuiet_nil ?_
    clear c1 c2 hne F ι
    go_wp2
    have hH7 : Blk ((w4.drew.setCell ⟨w.heap.size, 0, none⟩ (.slice xa xn xc)).setCell ⟨w.heap.size, 1, none⟩ (.map ym)) w.heap.size [.slice xa xn xc, .map ym] 45 := ((HH4.out.drew.set 0 _).set 1 _).to rfl
    have k7 : Keeps (In [w.heap.size]) w1 ((w4.drew.setCell ⟨w.heap.size, 0, none⟩ (.slice xa xn xc)).setCell ⟨w.heap.size, 1, none⟩ (.map ym)) := (k4.drew.setCell (.inl (by simp [In])) _).setCell (.inl (by simp [In])) _
    refine EffPost.intro ⟨hH7.cell 0, hH7.cell 1⟩ ?_
    rw [wpSegs]
    intro ι F hne hF
    clear hF
    repeat (quiet_step (fail))
    refine wpQuiet_nil ?_
    clear hne F ι
    have HH7 := Lib.hid hH7
    clear hH7
    go_wp2
    refine bodyPost_ret (results_row_tmp2 rfl _ _ w.heap.size _ rfl (load_hdr _ _ _ _ HH7.out)) rfl ?_
    refine ⟨(K01.of_no.trans' k7).mono (fun i hi h => by simp [In] at h; omega), ?_⟩
    have hres := HRES.out
    cases r with
    | none => exact ⟨xa, xn, xc, ym, k, rfl⟩
    | some pc => cases hr0
end Go.Proofs.YtjbbapodcngnaaaDoor
