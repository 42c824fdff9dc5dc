/- ReadHeader. -/
import Derived.Test.YtjbbapodcngnaaaDoorRhA
import Derived.Test.YtjbbapodcngnaaaDoorHdrB
namespace Go.Proofs.YtjbbapodcngnaaaDoor
open Go.RowKit Hdr

/-- What a field says. -/
def Fd.tells (f : Fd) (p : PF) : Prop := f.k = p.k ∧ f.v = p.v ∧ f.raw = some p.raw
/-- Fields that say what is said of them. -/
def Tells : List Fd → List PF → Prop
  | [], [] => True
  | f :: fs, p :: ps => f.tells p ∧ Tells fs ps
  | _, _ => False
theorem Tells.snoc : ∀ {fs : List Fd} {ps : List PF} {f : Fd} {p : PF}, Tells fs ps → f.tells p → Tells (fs ++ [f]) (ps ++ [p])
  | [], [], _, _, _, h => ⟨h, trivial⟩
  | _ :: _, _ :: _, _, _, h, h2 => ⟨h.1, Tells.snoc h.2 h2⟩
  | [], _ :: _, _, _, h, _ => h.elim
  | _ :: _, [], _, _, h, _ => h.elim

/-- What ReadHeader leaves. -/
def RhPost (b g s : Nat) (src : ByteArray) (r : Option (List PF × List UInt8)) (w : World) (e : Ending) (w' : World) : Prop :=
  Keeps (In [b, g, s]) w w' ∧
  match r with
  | none => ∃ xa xn xc ym ea c, e = .returned (.tuple #[.agg #[.slice xa xn xc, .map ym], .iface 109 (.pointer (some ea))]) ∧ Rd w' b g s src c
  | some (ps, c) => ∃ (lb cap : Nat) (m : Option Nat) (fs : List Fd), e = .returned (.tuple #[.agg #[.slice (some ⟨lb, 0, none⟩) fs.length cap, .map m], .nilIface]) ∧ w.heap.size ≤ lb ∧ fs.length ≤ cap ∧ POwn w' lb (fs.reverse.map (·.blk)) ∧ HMap w' w.heap.size m fs.reverse ∧
      Fds w' w.heap.size w'.heap.size fs ∧ Tells fs ps ∧ Rd w' b g s src c

set_option maxRecDepth 100000 in
set_option maxHeartbeats 1000000 in
/-- readLineSlice, nothing before it. -/
theorem readLineSlice_nil (b g s : Nat) (src : ByteArray) (ea : Addr) (w : World) (c : List UInt8) (h : Rd w b g s src c) (hc : c ≠ []) (hs : Short c) {N : Nat} (E : Env N b g s src ea w) :
    Calls Tryd.prog 45 #[.pointer (some ⟨b, 0, none⟩), .slice none 0 0] w fun e w' => (∃ v, e = .returned (.tuple #[v, .nilIface])) ∧ (∃ c', Rd w' b g s src c') ∧ Keeps (In [b, g, s]) w w' := by
  have H := readLine_some b g s src ea w c h hc hs E
  obtain ⟨hb, hg, hs'⟩ := h.lt
  have hll : (line1 c).1.length < 4096 := by
    have h1 := hs.self
    unfold line1
    cases hb : behind c with
    | nil => simp only []; omega
    | cons x r =>
      simp only [chomp]
      split
      · simp; omega
      · omega
  clear h hs hc E
  go_enter Tryd.func45, Tryd.ntmps45
  go_wp2
  refine wp_loop_rounds 1 ?_
  rw [rounds_succ]
  go_wp2_with (fail)
  refine H.mono ?_
  rintro e w1 ⟨o, cap1, rfl, hcap, hby, R, K⟩
  have HB := Lib.hid hby
  clear hby H
  generalize hL : (line1 c).1 = L at *
  generalize hM : (line1 c).2 = M at *
  clear hL hM
  obtain ⟨i0, hi, hz0, hz1, hz2⟩ := info_parts info_u8
  go_wp2_with (at_builtin; refine wpList_append_own _ rfl (.tmp 15) (.tmp 16) 41 rfl w.heap.size 5 i0 (.int .u8 0) 1 1 Tryd.underlying41 hi hz0 hz1 hz2 rfl (by decide) (.slice none 0 0) 0 [] rfl (World.ownsRow_nil _ _ _ _) ⟨g, o, none⟩ L.length cap1 (u8s L) rfl (by simp) HB.out.cells (u8s_one _) (by unfold maxLen; omega) (by omega) K.size ?_; intro v' W hown hgr _)
  have K2 : Keeps No w1 W := (Keeps.refl No w1).grown hgr (fun k hk => by cases hk)
  have R2 := R.keep K2 (fun h => h) (fun h => h) (fun h => h)
  clear R
  go_wp2
  go_ret2
  exact ⟨⟨_, rfl⟩, ⟨_, R2⟩, K.trans_no K2⟩

/-- readContinuedLineSlice, whatever is left. -/
def KvAny (b g s : Nat) (src : ByteArray) (l c : List UInt8) (w : World) (e : Ending) (w' : World) : Prop :=
  ∃ (a : Option Addr) (cap : Nat), e = .returned (.tuple #[.slice a l.length cap, .nilIface]) ∧ Rd w' b g s src c ∧ Keeps (In [b, g, s]) w w' ∧ (l ≠ [] → ∃ k : Nat, a = some ⟨k, 0, none⟩ ∧ OwnS w' w.heap.size k cap l)
theorem kv_any (b g s : Nat) (src : ByteArray) (ea : Addr) (w : World) (c : List UInt8) (h : Rd w b g s src c) (hsh : Short c) (hlen : c.length ≤ 1000000000) {N : Nat} (E : Env N b g s src ea w) :
    Calls Tryd.prog 47 #[.pointer (some ⟨b, 0, none⟩)] w (KvAny b g s src (kv c).1 (kv c).2 w) := by
  by_cases hc : c = []
  · subst hc
    refine (kv_end b g s src ea w h E).mono ?_
    rintro e w' ⟨rfl, R, K⟩
    rw [kv_nil]
    exact ⟨none, 0, rfl, R, K, fun h => absurd rfl h⟩
  · refine (kv_some b g s src ea w c h hc hsh hlen E).mono ?_
    rintro e w' ⟨k, cap, rfl, O, R, K⟩
    exact ⟨_, cap, rfl, R, K, fun _ => ⟨k, rfl, O⟩⟩

theorem rh_bad_post {b g s : Nat} {src : ByteArray} {w w7 : World} {xa : Option Addr} {xn xc : Nat} {ym : Option Nat} {eb : Addr} {c : List UInt8} (hR : Rd w7 b g s src c) (K : Keeps (Up w.heap.size [b, g, s]) w w7) :
    RhPost b g s src none w (.returned (.tuple #[.agg #[.slice xa xn xc, .map ym], .iface 109 (.pointer (some eb))])) w7 :=
  ⟨K.down (Nat.le_refl _), xa, xn, xc, ym, eb, c, rfl, hR⟩

/-- The end: what is handed back. -/
theorem rh_end_post {b g s : Nat} {src : ByteArray} {w w4 w5 : World} {lb cap : Nat} {m : Option Nat} {fs : List Fd} {ps : List PF} {c : List UInt8} (hb : b < w.heap.size) (hg : g < w.heap.size) (hs : s < w.heap.size)
    (hlb : w.heap.size ≤ lb) (hne : w.heap.size ≠ lb) (hcap : fs.length ≤ cap) (K : Keeps (Up w.heap.size [b, g, s]) w w4) (hR : Rd w4 b g s src c) (hF : Fds w4 w.heap.size w4.heap.size fs) (hT : Tells fs ps) (hty : Typed w4 lb 67)
    (hH : Blk w4 w.heap.size [.slice none 0 0, .map none] 45) (hpo : POwn w5 lb (fs.reverse.map (·.blk))) (hm : HMap w5 w4.heap.size m fs.reverse) (k5 : Keeps (In [lb]) w4 w5) (x y : Value) :
    RhPost b g s src (some (ps, c)) w (.returned (.tuple #[.agg #[.slice (some ⟨lb, 0, none⟩) fs.length cap, .map m], .nilIface])) ((w5.setCell ⟨w.heap.size, 0, none⟩ x).setCell ⟨w.heap.size, 1, none⟩ y) := by
  have kk : Keeps (In [w.heap.size]) w5 ((w5.setCell ⟨w.heap.size, 0, none⟩ x).setCell ⟨w.heap.size, 1, none⟩ y) := ((Keeps.refl _ w5).setCell (.inl (by simp [In])) _).setCell (.inl (by simp [In])) _
  generalize ((w5.setCell ⟨w.heap.size, 0, none⟩ x).setCell ⟨w.heap.size, 1, none⟩ y) = w6 at *
  have hsz := K.size
  have hsz5 := k5.size
  have hsz6 := kk.size
  have hlt := hH.lt
  have hF6 : Fds w6 w.heap.size w4.heap.size fs := by
    intro f hf
    have h4 := hF f hf
    have h1 := h4.B.typed.ne hty (by decide)
    have h2 := h4.B.typed.ne hH.typed (by decide)
    have h5 : Keeps (fun x => x = lb ∨ x = w.heap.size) w4 w6 := (k5.mono (fun x _ h => by simp [In] at h; exact .inl h)).trans' (kk.mono (fun x _ h => by simp [In] at h; exact .inr h))
    refine ⟨h4.ge, h4.lt, h4.B.keep h5 (fun h => by rcases h with h | h; exact h1 h; exact h2 h), ?_⟩
    have hR := h4.R
    cases hr : f.raw with
    | none => rw [hr] at hR; exact hR
    | some l =>
      rw [hr] at hR
      obtain ⟨rb, ro, cp, e1, e2, e3, e4, e5, e6⟩ := hR
      have n1 := e6.ne hty (by decide)
      have n2 := e6.ne hH.typed (by decide)
      exact ⟨rb, ro, cp, e1, e2, e3, e4, e5.keep h5 (fun h => by rcases h with h | h; exact n1 h; exact n2 h), e6.keep h5 (fun h => by rcases h with h | h; exact n1 h; exact n2 h)⟩
  refine ⟨?_, lb, cap, m, fs, rfl, hlb, hcap, hpo.keep kk (fun h => by simp [In] at h; omega), ?_, hF6.mono (by omega), hT, ?_⟩
  · refine (((K.trans' (k5.mono (fun x _ h => .inr (by simp [In] at h; omega)))).trans' (kk.mono (fun x _ h => .inr (by simp [In] at h; omega))))).down (Nat.le_refl _)
  · rcases hm with ⟨h1, h2⟩ | ⟨mb, gs, h1, h2, h3, h4⟩
    · exact .inl ⟨h1, h2⟩
    · refine .inr ⟨mb, gs, h1, by omega, h3.keep kk (fun h => by simp [In] at h; omega), ?_⟩
      have h5 := h4.keep kk (fun x hx b hb h => by
        have := ((h4.own x hx).lt b hb).1
        simp [In] at h
        omega)
      exact ⟨h5.keys, h5.apart, fun x hx => PS.mono (h5.own x hx) hsz, h5.some_, h5.of, h5.all⟩
  · exact (hR.keep k5 (fun h => by simp [In] at h; omega) (fun h => by simp [In] at h; omega) (fun h => by simp [In] at h; omega)).keep kk (fun h => by simp [In] at h; omega) (fun h => by simp [In] at h; omega) (fun h => by simp [In] at h; omega)

set_option maxRecDepth 100000 in
set_option maxHeartbeats 2000000 in
theorem readHeader_nil (b g s : Nat) (src : ByteArray) (ea : Addr) (w : World) (h : Rd w b g s src []) {N : Nat} (E : Env N b g s src ea w) :
    Calls Tryd.prog 34 #[.pointer (some ⟨b, 0, none⟩)] w (RhPost b g s src (some ([], [])) w) := by
  have H := Lib.hid h
  have HE := Lib.hid E
  obtain ⟨hb, hg, hs'⟩ := h.lt
  clear h E
  go_enter Tryd.func34, Tryd.ntmps34
  go_wp2_with (at_make; refine wpList_make_p rfl (.const (.int .i64 0)) (.const (.int .i64 32)) rfl w.heap.size 32 32 rfl rfl (by decide) (by decide) (by simp) ?_; intro W0 O0 K0)
  rw [show (w.alloc (.cells #[.slice none 0 0, .map none] 45)).heap.size = w.heap.size + 1 by simp] at O0
  have K00 : Keeps No w W0 := ((Keeps.refl No w).alloc _).trans' K0
  have hB0 : Blk W0 w.heap.size [.slice none 0 0, .map none] 45 := (Blk.new w _ _).keep_no K0
  have R0 := H.out.keep K00 (fun h => h) (fun h => h) (fun h => h)
  have E0 := HE.out.keep_no K00
  refine (peek_none b g s src ea W0 R0 E0).mono ?_
  rintro e w1 ⟨o1, cap1, rfl, R1, K1⟩
  have hq := fun (w : World) (v : Value) => run_eql_iface_nil_left (P := Tryd.prog) w 109 v Tryd.underlying49
  have O1 := O0.keep K1 (fun h => by simp [In] at h; omega)
  have hB1 := hB0.keep K1 (fun h => by simp [In] at h; omega)
  have E1 := E0.keep3 K1
  have HO1 := Lib.hid O1
  have HB1 := Lib.hid hB1
  clear O0 O1 hB0 hB1 E0
  go_wp2
  refine wp_loop_rounds 1 ?_
  rw [rounds_succ]
  go_wp2_with (fail)
  refine (kv_any b g s src ea w1 [] R1 (fun b hb => by have := List.suffix_nil.1 hb; subst this; decide) (by simp) E1).mono ?_
  rintro e w4 ⟨a4, cap4, rfl, R4, K4, -⟩
  rw [kv_nil] at R4 ⊢
  have K14 : Keeps (Up w.heap.size [b, g, s]) w w4 := (K00.of_no.trans' K1.up).trans' K4.up
  have O4 := HO1.out.keep K4 (fun h => by simp [In] at h; omega)
  have HB := Lib.hid (HB1.out.keep K4 (fun h => by simp [In] at h; omega))
  have HO4 := Lib.hid O4
  clear O4 HO1 HB1
  go_wp2_with (fail)
  refine (newHeader_any (w.heap.size + 1) 32 w.heap.size w4.heap.size [] 0 rfl w4 HO4.out.own (fun f hf => by cases hf) (Nat.le_refl _) (by simp)).mono ?_
  rintro e w5 ⟨m5, rfl, hpo5, hm5, k5⟩
  have hB5 := HB.out.keep k5 (fun h => by simp [In] at h)
  have fz5 := hB5.frozen
  have c50 : w5.cell? ⟨w.heap.size, 0, none⟩ = some (.slice none 0 0) := hB5.cell 0
  have c51 : w5.cell? ⟨w.heap.size, 1, none⟩ = some (.map none) := hB5.cell 1
  have HB5 := Lib.hid hB5
  clear hB5
  go_wp2
  refine bodyPost_ret (results_row_tmp rfl _ _ w.heap.size _ rfl (load_hdr _ _ _ _ ((HB5.out.set 0 _).set 1 _))) rfl ?_
  exact rh_end_post (ps := []) (fs := []) hb hg hs' (by omega) (by omega) (by simp) K14 R4 (fun f hf => by cases hf) trivial HO4.out.own.ptrs.typed HB.out hpo5 hm5 k5 _ _
set_option maxRecDepth 100000 in
set_option maxHeartbeats 2000000 in
theorem readHeader_bad (b g s : Nat) (src : ByteArray) (ea : Addr) (w : World) (x : UInt8) (c : List UInt8) (h : Rd w b g s src (x :: c)) (hx : sp x = true) (hs : Short (x :: c)) {N : Nat} (E : Env N b g s src ea w) :
    Calls Tryd.prog 34 #[.pointer (some ⟨b, 0, none⟩)] w (RhPost b g s src none w) := by
  have H := Lib.hid h
  have HE := Lib.hid E
  have HX := Lib.hid hx
  have HS := Lib.hid hs
  obtain ⟨hb, hg, hs'⟩ := h.lt
  clear h E hx hs
  go_enter Tryd.func34, Tryd.ntmps34
  go_wp2_with (at_make; refine wpList_make_p rfl (.const (.int .i64 0)) (.const (.int .i64 32)) rfl w.heap.size 32 32 rfl rfl (by decide) (by decide) (by simp) ?_; intro W0 O0 K0)
  rw [show (w.alloc (.cells #[.slice none 0 0, .map none] 45)).heap.size = w.heap.size + 1 by simp] at O0
  have K00 : Keeps No w W0 := ((Keeps.refl No w).alloc _).trans' K0
  have hB0 : Blk W0 w.heap.size [.slice none 0 0, .map none] 45 := (Blk.new w _ _).keep_no K0
  have R0 := H.out.keep K00 (fun h => h) (fun h => h) (fun h => h)
  have E0 := HE.out.keep_no K00
  refine (peek_some b g s src ea W0 x c R0 E0).mono ?_
  rintro e w1 ⟨o1, cap1, rfl, hc1, R1, K1⟩
  unfold byt at hc1
  have O1 := O0.keep K1 (fun h => by simp [In] at h; omega)
  have hB1 := hB0.keep K1 (fun h => by simp [In] at h; omega)
  have E1 := E0.keep3 K1
  have HO1 := Lib.hid O1
  have HB1 := Lib.hid hB1
  clear O0 O1 hB0 hB1 E0
  go_wp2_with (fail)
  refine (isSpace_any x _).mono ?_
  rintro e w2 ⟨rfl, rfl⟩
  have hx := HX.out
  rw [hx]
  clear hx
  go_wp2_with (fail)
  refine (readLineSlice_nil b g s src ea w2 (x :: c) R1 (by simp) HS.out E1).mono ?_
  rintro e w4 ⟨⟨v4, rfl⟩, ⟨c4, R4⟩, K4⟩
  have K14 : Keeps (Up w.heap.size [b, g, s]) w w4 := (K00.of_no.trans' K1.up).trans' K4.up
  have O4 := HO1.out.keep K4 (fun h => by simp [In] at h; omega)
  have HB := Lib.hid (HB1.out.keep K4 (fun h => by simp [In] at h; omega))
  have HO4 := Lib.hid O4
  clear O4 HO1 HB1
  go_wp2_with (fail)
  refine (newHeader_any (w.heap.size + 1) 32 w.heap.size w4.heap.size [] 0 rfl w4 HO4.out.own (fun f hf => by cases hf) (Nat.le_refl _) (by simp)).mono ?_
  rintro e w5 ⟨m5, rfl, hpo5, hm5, k5⟩
  have hB5 := HB.out.keep k5 (fun h => by simp [In] at h)
  have HB5 := Lib.hid hB5
  clear hB5
  go_wp2_with (fail)
  refine (errorsNew_any _ w5).mono ?_
  rintro e w6 ⟨eb, rfl, k6⟩
  have hB6 := HB5.out.keep_no k6
  have fz6 := hB6.frozen
  have c60 : w6.cell? ⟨w.heap.size, 0, none⟩ = some (.slice none 0 0) := hB6.cell 0
  have c61 : w6.cell? ⟨w.heap.size, 1, none⟩ = some (.map none) := hB6.cell 1
  have HB6 := Lib.hid hB6
  clear hB6
  go_wp2
  refine bodyPost_ret (results_row_tmp rfl _ _ w.heap.size _ rfl (load_hdr _ _ _ _ ((HB6.out.set 0 _).set 1 _))) rfl ?_
  have kk : Keeps (Up w.heap.size [b, g, s]) w4 w5 := k5.mono (fun x _ h => .inr (by simp [In] at h; omega))
  refine rh_bad_post (c := c4) ?_ ((((K14.trans' kk).trans_no k6).setCell (.inr (Nat.le_refl _)) _).setCell (.inr (Nat.le_refl _)) _)
  have k7 : Keeps (In [w.heap.size + 1, w.heap.size]) w4 ((w6.setCell ⟨w.heap.size, 0, none⟩ (.slice (some ⟨w.heap.size + 1, 0, none⟩) 0 32)).setCell ⟨w.heap.size, 1, none⟩ (.map m5)) :=
    (((k5.mono (fun x _ h => by simp [In] at h; simp [In, h])).trans_no k6).setCell (.inl (by simp [In])) _).setCell (.inl (by simp [In])) _
  exact R4.keep k7 (fun h => by simp [In] at h; omega) (fun h => by simp [In] at h; omega) (fun h => by simp [In] at h; omega)
end Go.Proofs.YtjbbapodcngnaaaDoor
