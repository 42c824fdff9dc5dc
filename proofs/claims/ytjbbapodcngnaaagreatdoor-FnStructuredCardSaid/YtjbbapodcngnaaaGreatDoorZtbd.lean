/- A message's header and body; its structure. A message's structure. HeaderPlayed of the program: played, tried. impl.Structured. -/
import Derived.Test.YtjbbapodcngnaaaGreatDoorZtbc
import Derived.Test.YtjbbapodcngnaaaGreatDoorZtaa
import Derived.Maps.AppendAt
import Derived.LaidEqlPtr
import Derived.Test.YtjbbapodcngnaaaGreatDoorShelfB
import Derived.Defers
import Derived.Recover
namespace Go.Proofs.YtjbbapodcngnaaaGreatDoor.G
open Go.RowKit Hdr

set_option maxRecDepth 100000 in
theorem newReader_any (h cap : Nat) (T : List UInt8) (w : World) (hB : BytesAt w h 0 T) (hc : T.length ≤ cap) (hl : T.length ≤ 1000000) (ea : Addr) :
    Calls Tryz.prog 86 #[.slice (some ⟨h, 0, none⟩) T.length cap] w fun e w' => ∃ k, e = .returned (.pointer (some ⟨k, 0, none⟩)) ∧ w.heap.size ≤ k ∧ (bytesSrc ea k h 0 cap T).S w' T ∧ Keeps No w w' := by
  have HB := Lib.hid hB
  clear hB
  go_enter Tryz.func86, Tryz.ntmps86
  go_wp2
  go_ret
  refine ⟨w.heap.size, rfl, Nat.le_refl _, ⟨0, -1, Blk.new w _ _, HB.out.keep (S := No) ((Keeps.refl No w).alloc _) (fun h => h), Nat.zero_le _, rfl, hc, by omega, fun e => ?_⟩, (Keeps.refl No w).alloc _⟩
  have := HB.out.lt
  omega

/-- The results of a function with a struct in a cell and two temporaries. -/
theorem results_row_tmp2 {fn : Func} {p u v : Tmp} {ty : TypeId} (h : fn.results = #[.cell p ty, .tmp u, .tmp v]) (tmps : Array Value) {P : Program} (w : World) (g : Nat) (x : Value) (hp : tmps.getD p undef = .pointer (some ⟨g, 0, none⟩)) (hl : (loadVar ty ⟨g, 0, none⟩).run P w = .ok x w) :
    (results fn tmps).run P w = .ok (.tuple #[x, tmps.getD u undef, tmps.getD v undef]) w := by
  simp only [results, h]
  simp [Sem.run_bind, asAddr, Result.andThen]
  have hp' : tmps[p]?.getD undef = .pointer (some ⟨g, 0, none⟩) := by simpa using hp
  rw [hp']
  simp [hl]

/-- What headerAndBody leaves. -/
def HbPost (ea : Addr) (m : Ml) (h cap : Nat) (T : List UInt8) (w : World) (e : Ending) (w' : World) : Prop :=
  ∃ hv fs b g k, e = .returned (.tuple #[hv, .iface 150 (.pointer (some ⟨b, 0, none⟩)), .nilIface]) ∧ HdrAt w' w.heap.size hv fs ∧ Tells fs ((fieldsOf m []).map pfH) ∧ (bufSrc b g (bytesSrc ea k h 0 cap T)).S w' (content m []) ∧ Keeps (fun x => x = h) w w' ∧ w.heap.size ≤ b ∧ w.heap.size ≤ g ∧ w.heap.size ≤ k

set_option maxRecDepth 100000 in
set_option maxHeartbeats 1000000 in
theorem hb_any (mb h cap : Nat) (m : Ml) (T : List UInt8) (w : World) (ea : Addr) {N : Nat} (FE : FEnv N ea w) (hmb : w.cell? ⟨mb, 4, none⟩ = some (.slice (some ⟨h, 0, none⟩) T.length cap)) (hB : BytesAt w h 0 T) (hc : T.length ≤ cap) (hN : N ≤ h) (hT : T = mtext m []) (ok : MlOk m) (hm : msize m ≤ 30) :
    Calls Tryz.prog 64 #[.pointer (some ⟨mb, 0, none⟩)] w (HbPost ea m h cap T w) := by
  have hp : PlOk [] := fun c hc => by cases hc
  have hln := any_lns ok hp (by simpa using hm)
  have hTl : T.length ≤ 1000000 := by rw [hT]; have := hln.2.2; omega
  have hsh : Short T := by
    rw [hT]
    have := hln.1.short (c := []) short_nil
    rwa [List.append_nil] at this
  have hTn : T ≠ [] := by
    rw [hT]
    unfold mtext hdrText
    simp
  have hrd : rhd T = some ((fieldsOf m []).map pfH, content m []) := by
    rw [hT]
    unfold mtext
    exact rhd_fields _ (fields_ok ok hp (by simp)) _
  have hcl : (content m []).length ≤ 1000000 := by have := content_le m []; have := hln.2.2; omega
  have hmb2 := ((Keeps.refl No w).alloc (.cells #[.slice none 0 0, .map none] 74)).cell hmb (fun h => h)
  have hmbl : mb < w.heap.size := World.block_lt_of_cell? w ⟨mb, 4, none⟩ hmb
  have HB := Lib.hid hB
  have HFE := Lib.hid FE
  have hhl := hB.lt
  have HRD := Lib.hid hrd
  clear hB FE hmb hT hrd
  go_enter Tryz.func64, Tryz.ntmps64
  go_wp2_with (fail)
  have KA : Keeps No w (w.alloc (.cells #[.slice none 0 0, .map none] 74)) := (Keeps.refl No w).alloc _
  have hA := Blk.new w [.slice none 0 0, .map none] 74
  have hsA : w.heap.size < (w.alloc (.cells #[.slice none 0 0, .map none] 74)).heap.size := by simp
  generalize (w.alloc (.cells #[.slice none 0 0, .map none] 74)) = wA at *
  have HA := Lib.hid hA
  clear hA
  refine (newReader_any h cap T wA (HB.out.keep (S := No) KA (fun h => h)) hc hTl ea).mono ?_
  rintro e w1 ⟨k, rfl, hk, S1, K1⟩
  have HS1 := Lib.hid S1
  clear S1 hmb2
  go_wp2_with (fail)
  refine (bufNew_any (bytesSrc ea k h 0 cap T) T w1 HS1.out (bytes_notBuf k)).mono ?_
  rintro e w2 ⟨b, g, rfl, hb, hg, R, K2⟩
  have F2 := HFE.out.keep_no ((KA.trans_no K1).trans_no K2)
  have hNw := HFE.out.hN
  have hs1 := K1.size
  have hs2 := K2.size
  have E2 : Env N b g (bytesSrc ea k h 0 cap T) w2 := ⟨bytesSrc_ok (by omega) hN, by omega, by omega, F2.laid⟩
  have H := readHeader_any b g (bytesSrc ea k h 0 cap T) w2 T R hTn hsh hTl E2
  rw [HRD.out] at H
  have HH := Lib.hid H
  clear H R E2
  go_wp2_with (fail)
  refine HH.out.mono ?_
  rintro e w3 ⟨K3, lb, cp, mp, fs, rfl, p1, p2, p3, p4, p5, p6, p7⟩
  have KK : Keeps (fun x => x = h) w w3 := (((KA.of_no).trans_no K1).trans_no K2).trans K3 (fun i hi hx => by
    rcases hx with hx | hx | hx | hx
    · omega
    · omega
    · omega
    · exact hx)
  have hI : ¬ InX b g (bytesSrc ea k h 0 cap T) w.heap.size := fun hx => by
    rcases hx with hx | hx | hx | hx
    · omega
    · omega
    · omega
    · omega
  have B3 := ((HA.out.keep_no K1).keep_no K2).keep K3 hI
  have fz := fun o i => (B3.alloc o).frozen i
  have x0 : ∀ o, (w3.alloc o).cell? ⟨w.heap.size, 0, none⟩ = some (.slice none 0 0) := fun o => (B3.alloc o).cell 0
  have x1 : ∀ o, (w3.alloc o).cell? ⟨w.heap.size, 1, none⟩ = some (.map none) := fun o => (B3.alloc o).cell 1
  have HB3 := Lib.hid B3
  have hH3 : HdrAt w3 w2.heap.size (.agg #[.slice (some ⟨lb, 0, none⟩) fs.length cp, .map mp]) fs := ⟨lb, cp, mp, rfl, p1, p2, p3, p4, p5⟩
  have HH3 := Lib.hid hH3
  have HP6 := Lib.hid p6
  have HP7 := Lib.hid p7
  have HI := Lib.hid hI
  have HCL := Lib.hid hcl
  have HKK := Lib.hid KK
  clear B3 hH3 p1 p2 p3 p4 p5 p6 p7 hI hcl KK K3
  go_wp2
  refine bodyPost_ret (results_row_tmp2 rfl _ _ w.heap.size _ rfl (load_hdr _ _ _ _ (((HB3.out.alloc _).set 0 _).set 1 _))) rfl ?_
  have kk : Keeps (In [w.heap.size]) w3 (((w3.alloc (.cells #[.slice (some ⟨lb, 0, none⟩) fs.length cp, .map mp] 74)).setCell ⟨w.heap.size, 0, none⟩ (.slice (some ⟨lb, 0, none⟩) fs.length cp)).setCell ⟨w.heap.size, 1, none⟩ (.map mp)) := (by repeat (first | assumption | exact Keeps.refl _ _ | apply Keeps.drewN | apply Keeps.drew | apply Keeps.alloc | (refine Keeps.setCell ?_ (.inl (by simp [In])) _)))
  refine ⟨_, fs, b, g, k, rfl, HH3.out.to kk (fun x hx => by simp [In] at hx; omega) (by omega), HP6.out, ⟨HP7.out.keep kk (fun x hx h => by simp [In] at h; exact HI.out (h ▸ hx)), by have := HCL.out; omega⟩, HKK.out.trans kk (fun i hi h => by simp [In] at h; omega), by omega, by omega, by omega⟩
end Go.Proofs.YtjbbapodcngnaaaGreatDoor.G
namespace Go.Proofs.YtjbbapodcngnaaaGreatDoor.G
open Go.RowKit Hdr

/-- What Structure leaves. -/
def SuPost (m : Ml) (h : Nat) (w : World) (e : Ending) (w' : World) : Prop :=
  ∃ k, e = .returned (.tuple #[.pointer (some ⟨k, 0, none⟩), .nilIface]) ∧ BsAt w' (fun x => w.heap.size ≤ x) (shapeOf m []) k ∧ Keeps (fun x => x = h) w w'

set_option maxRecDepth 100000 in
set_option maxHeartbeats 1000000 in
theorem structure_any (mb h cap : Nat) (m : Ml) (T : List UInt8) (w : World) (ea : Addr) {N : Nat} (FE : FEnv N ea w) (hmb : w.cell? ⟨mb, 4, none⟩ = some (.slice (some ⟨h, 0, none⟩) T.length cap)) (hB : BytesAt w h 0 T) (hc : T.length ≤ cap) (hN : N ≤ h) (hT : T = mtext m []) (ok : MlOk m) (hm : msize m ≤ 30) (hsu : sureOf m [] = true) :
    Calls Tryz.prog 43 #[.pointer (some ⟨mb, 0, none⟩), .bool false] w (SuPost m h w) := by
  have HB := Lib.hid (hb_any mb h cap m T w ea FE hmb hB hc hN hT ok hm)
  have HFE := Lib.hid FE
  have HOK := Lib.hid ok
  have HSU := Lib.hid hsu
  have hhl := hB.lt
  clear hmb hB hT FE ok hsu
  go_enter Tryz.func43, Tryz.ntmps43
  go_wp2_with (fail)
  refine HB.out.mono ?_
  rintro e w1 ⟨hv, fs, b, g, k, rfl, hH, hTe, hS, K1, hb, hg, hk⟩
  have hH' := hH
  obtain ⟨lb, cp, mp, rfl, _⟩ := hH'
  have hNw := HFE.out.hN
  have F1 := HFE.out.keep K1 (fun x hx => hx ▸ hN)
  have KA : Keeps No w1 (w1.alloc (.cells #[.slice (some ⟨lb, 0, none⟩) fs.length cp, .map mp] 74)) := (Keeps.refl No w1).alloc _
  have HF := Lib.hid (fetch_all (msize m) m (Nat.le_refl _) HOK.out [] (bufSrc b g (bytesSrc ea k h 0 cap T)) N _ _ fs w.heap.size (fun c hc => by cases hc) (by simpa using hm) HSU.out (bufSrc_ok (bytesSrc_ok (by omega) hN) (by omega) (by omega)) (F1.keep_no KA) ((bufSrc b g (bytesSrc ea k h 0 cap T)).keep_no hS KA) (hH.up KA (fun x h => h.elim)) hTe)
  have HK1 := Lib.hid K1
  clear hH hTe hS F1 K1
  go_wp2_with (fail)
  refine HF.out.mono ?_
  rintro e w3 ⟨kb, s', rfl, hBs, _, K3⟩
  have hs1 := HK1.out.size
  have hsA := KA.size
  have HBs := Lib.hid hBs
  have HK3 := Lib.hid K3
  clear hBs K3
  go_wp2
  go_ret2
  refine ⟨kb, rfl, BsAt.mono (fun x _ hx => by omega) _ _ HBs.out, (HK1.out.trans_no KA).trans HK3.out (fun i hi hx => ?_)⟩
  rcases hx with hx | hx | hx | hx
  · omega
  · omega
  · omega
  · exact hx
end Go.Proofs.YtjbbapodcngnaaaGreatDoor.G
namespace Go.Proofs.YtjbbapodcngnaaaGreatDoor
open Go.RowKit Hdr

theorem catch_idle (p : Addr) (w : World) :
    CallsD Tryz.prog 51 #[.pointer (some p)] .returning w fun e u' w' => e = .returned (.tuple #[]) ∧ u' = .returning ∧ w' = w := by
  refine callsD_of_wpS Tryz.func51 rfl fun c₀ cs hu => ?_
  apply wpS_seq
  apply wpS_region
  simp [wpOpsS, go_sem, recoverD, hu, Tryz.ntmps51, Exit.thenS]
  refine wpS_cond (t := false) (by simp [Act.eval, Array.replicate]) ?_
  simp only [Bool.false_eq_true, if_false]
  refine wpS_of_wp (wp_skip ?_)
  cases c₀
  simp_all [bodyPostS, results, Tryz.results51]

theorem Blk.alloc_at {w : World} {b : Nat} (hb : b = w.heap.size) (cs : List Value) (t : TypeId) : Blk (w.alloc (.cells cs.toArray t)) b cs t := by
  subst hb
  exact Blk.new w cs t
theorem Blk.alloc_eq {w w' : World} {b : Nat} {cs : List Value} {t : TypeId} {o : Obj} (h : Blk w b cs t) (e : w.alloc o = w') : Blk w' b cs t := by
  rw [← e]
  exact h.alloc o

end Go.Proofs.YtjbbapodcngnaaaGreatDoor
namespace Go.Proofs.YtjbbapodcngnaaaGreatDoor.G
open Go.RowKit Hdr

theorem StsAt.base {w : World} {b b' : Nat} {v : Value} {rs : List SR} (h : StsAt w b' v rs) (hb : b ≤ b') : StsAt w b v rs := by
  obtain ⟨ps, h1, h2, h3⟩ := h
  exact ⟨ps, h1, rowBase h2 hb, fun x hx => rowBase (h3 x hx) hb⟩
/-- What the closure leaves. -/
def ClS (rs : List SR) (h rb ob base : Nat) (w w' : World) : Prop :=
  ∃ v, Blk w' rb [v] 49 ∧ Blk w' ob [.bool true] 4 ∧ StsAt w' base v rs ∧ Keeps (fun x => x = h ∨ x = rb ∨ x = ob) w w'
/-- What stands ahead of it. -/
structure CapS (vb rb ob mb h cap : Nat) (T : List UInt8) (w : World) : Prop where
  V : Blk w vb [.pointer (some ⟨mb, 0, none⟩)] 84
  R : ∃ v, Blk w rb [v] 49
  O : ∃ v, Blk w ob [v] 4
  M : w.cell? ⟨mb, 4, none⟩ = some (.slice (some ⟨h, 0, none⟩) T.length cap)
  B : BytesAt w h 0 T
  rh : rb ≠ h
  oh : ob ≠ h
  or_ : ob ≠ rb
theorem CapS.keep_no {vb rb ob mb h cap : Nat} {T : List UInt8} {w w' : World} (c : CapS vb rb ob mb h cap T w) (k : Keeps No w w') : CapS vb rb ob mb h cap T w' := by
  obtain ⟨v, hv⟩ := c.R
  obtain ⟨o, ho⟩ := c.O
  exact ⟨c.V.keep_no k, ⟨v, hv.keep_no k⟩, ⟨o, ho.keep_no k⟩, k.cell c.M (fun h => h), c.B.keep (S := No) k (fun h => h), c.rh, c.oh, c.or_⟩

set_option maxRecDepth 100000 in
set_option maxHeartbeats 1000000 in
theorem sclosure_any (vb rb ob mb h cap : Nat) (m : Ml) (T : List UInt8) (rs : List SR) (w : World) (ea : Addr) {N : Nat} (FE : FEnv N ea w) (c : CapS vb rb ob mb h cap T w) (hc : T.length ≤ cap) (hN : N ≤ h) (hT : T = mtext m []) (ok : MlOk m) (hm : msize m ≤ 30) (hsu : sureOf m [] = true) (hrs : flat (shapeOf m []) = rs) :
    Calls Tryz.prog 42 #[.pointer (some ⟨vb, 0, none⟩), .pointer (some ⟨rb, 0, none⟩), .pointer (some ⟨ob, 0, none⟩)] w fun e w' => e = .returned (.tuple #[]) ∧ ClS rs h rb ob w.heap.size w w' := by
  have HS := Lib.hid (structure_any mb h cap m T w ea FE c.M c.B hc hN hT ok hm hsu)
  have hv0 := c.V.cell 0
  simp only [List.getElem?_cons_zero] at hv0
  have HST := Lib.hid (fun (w' : World) (k : Nat) (hb : BsAt w' (fun x => w.heap.size ≤ x) (shapeOf m []) k) => structs_any (ssize (shapeOf m [])) (shapeOf m []) (Nat.le_refl _) (by rw [shape_size _ m (Nat.le_refl _)]; omega) k w' _ hb)
  have HC := Lib.hid c
  have HRS := Lib.hid hrs
  clear FE c hT ok hsu hrs
  rw [HRS.out] at HST
  go_enter Tryz.func42, Tryz.ntmps42
  go_wp2_with (fail)
  refine HS.out.mono ?_
  rintro e w1 ⟨k, rfl, hBs, K1⟩
  have C := Lib.hid (HST.out w1 k hBs)
  obtain ⟨v0, hR⟩ := HC.out.R
  obtain ⟨o0, hO⟩ := HC.out.O
  have rh := HC.out.rh
  have oh := HC.out.oh
  have orr := HC.out.or_
  have HR1 := Lib.hid (hR.keep K1 rh)
  have HO1 := Lib.hid (hO.keep K1 oh)
  have hrl := hR.lt
  have hol := hO.lt
  have HK1 := Lib.hid K1
  clear hBs K1 hR hO
  go_wp2_with (fail)
  refine C.out.mono ?_
  rintro e w2 ⟨v, rfl, ⟨ps, e1, r1, q1⟩, K2⟩
  obtain ⟨va, vm, vc, rfl⟩ := rowV r1
  have hR2 := HR1.out.keep_no K2
  have hO2 := HO1.out.keep_no K2
  have fr := hR2.frozen 0
  have fo := hO2.frozen 0
  have cr : w2.cell? ⟨rb, 0, none⟩ = some v0 := hR2.cell 0
  have co : w2.cell? ⟨ob, 0, none⟩ = some o0 := hO2.cell 0
  have HR2 := Lib.hid hR2
  have HO2 := Lib.hid hO2
  have HSS := Lib.hid (show StsAt w2 w1.heap.size (.slice va vm vc) rs from ⟨ps, e1, r1, q1⟩)
  have HK2 := Lib.hid K2
  clear hR2 hO2 e1 r1 q1 K2
  go_wp2
  go_end0
  have kk : Keeps (fun x => x = rb ∨ x = ob) w2 ((w2.setCell ⟨rb, 0, none⟩ (.slice va vm vc)).setCell ⟨ob, 0, none⟩ (.bool true)) := ((Keeps.refl _ w2).setCell (.inl (.inl rfl)) _).setCell (.inl (.inr rfl)) _
  have hs1 := HK1.out.size
  refine ⟨rfl, .slice va vm vc, ((HR2.out.set 0 _).set_other (p := ⟨ob, 0, none⟩) orr _).to rfl, ((HO2.out.set_other (p := ⟨rb, 0, none⟩) (Ne.symm orr) _).set 0 _).to rfl, StsAt.base (HSS.out.keep kk (fun x hx => by omega)) hs1, ((HK1.out.mono (fun _ _ h => .inl h)).trans_no HK2.out).trans kk (fun i _ h => .inr h)⟩

theorem ClS.before {rs : List SR} {h rb ob base base' : Nat} {w w1 w2 : World} (c : ClS rs h rb ob base w1 w2) (k : Keeps No w w1) (hb : base' ≤ base) : ClS rs h rb ob base' w w2 := by
  obtain ⟨v, h2, h3, h4, hk⟩ := c
  exact ⟨v, h2, h3, h4.base hb, k.of_no.trans' hk⟩
theorem ClS.set_x {rs : List SR} {h rb ob base x : Nat} {w w' : World} {v : Value} (c : ClS rs h rb ob base w w') (h1 : x ≠ rb) (h2 : x ≠ ob) (h3 : x < base) (h4 : w.heap.size ≤ x) : ClS rs h rb ob base w (w'.setCell ⟨x, 0, none⟩ v) := by
  obtain ⟨v', a1, a2, a3, hk⟩ := c
  have k : Keeps (In [x]) w' (w'.setCell ⟨x, 0, none⟩ v) := (Keeps.refl _ w').setCell (.inl (by simp [In])) _
  exact ⟨v', a1.set_other (p := ⟨x, 0, none⟩) h1 _, a2.set_other (p := ⟨x, 0, none⟩) h2 _, a3.keep k (fun y hy => by simp [In] at hy; omega), hk.setCell (.inr h4) _⟩

set_option maxRecDepth 100000 in
set_option maxHeartbeats 1000000 in
theorem stried_any (vb rb ob h : Nat) (rs : List SR) (w : World) (hr : rb < w.heap.size) (ho : ob < w.heap.size) (hh : h < w.heap.size) (hc : ∀ w1, Keeps No w w1 → Calls Tryz.prog 42 #[.pointer (some ⟨vb, 0, none⟩), .pointer (some ⟨rb, 0, none⟩), .pointer (some ⟨ob, 0, none⟩)] w1 fun e w' => e = .returned (.tuple #[]) ∧ ClS rs h rb ob w1.heap.size w1 w') :
    Calls Tryz.prog 30 #[.func (.func 42) #[] #[.pointer (some ⟨vb, 0, none⟩), .pointer (some ⟨rb, 0, none⟩), .pointer (some ⟨ob, 0, none⟩)]] w fun e w' => e = .returned (.bool true) ∧ ClS rs h rb ob w.heap.size w w' := by
  have hmf : ∀ (fn : Fn) (first cap : Array Value) (w : World), (Instr.makeFunc fn first cap).run Tryz.prog w = .ok (.func fn first cap) w := fun _ _ _ _ => rfl
  have HC := Lib.hid hc
  clear hc
  go_enter_defers Tryz.func30, Tryz.ntmps30
  go_wp2_with (fail)
  have kA : Keeps No w (w.alloc (.cells #[.bool false] 4)) := (Keeps.refl No w).alloc _
  refine (HC.out _ kA).mono ?_
  rintro e w2 ⟨rfl, hp⟩
  have hq := (hp.before kA (Nat.le_refl _)).set_x (x := w.heap.size) (v := .bool true) (by omega) (by omega) (by simp) (Nat.le_refl _)
  have hbx : Blk w2 w.heap.size [.bool false] 4 := by
    obtain ⟨v, _, _, _, k⟩ := hp
    exact (Blk.new w [.bool false] 4).keep k (fun h => by rcases h with h | h | h <;> omega)
  have HQ := Lib.hid hq
  have HBX := Lib.hid hbx
  have f0 := hbx.frozen 0
  have c0 := hbx.cell 0
  clear hq hbx hp kA
  go_wp2
  refine leaves_cons (f := 51) (args := #[.pointer (some ⟨w.heap.size, 0, none⟩)]) (by simp) (by simp [go_sem]) ?_
  refine (catch_idle ⟨w.heap.size, 0, none⟩ _).mono ?_
  rintro e u' w'' ⟨rfl, rfl, rfl⟩
  have c1 : (w2.setCell ⟨w.heap.size, 0, none⟩ (.bool true)).cell? ⟨w.heap.size, 0, none⟩ = some (.bool true) := (HBX.out.set 0 (.bool true)).cell 0
  have hq := HQ.out.before (Keeps.refl No w) (base' := w.heap.size) (by simp)
  simp [Leaves, settle, results, Tryz.results30, go_sem, c1]
  exact hq

/-- What Structured leaves. -/
def StrPost (rs : List SR) (w : World) (e : Ending) (w' : World) : Prop := ∃ v, e = .returned (.tuple #[v, .bool true]) ∧ StsAt w' w.heap.size v rs ∧ Keeps No w w'

theorem results_ct {fn : Func} {p u : Tmp} {ty : TypeId} (h : fn.results = #[.cell p ty, .tmp u]) (tmps : Array Value) {P : Program} (w : World) (g : Nat) (v : Value) (hp : tmps.getD p undef = .pointer (some ⟨g, 0, none⟩)) (hl : (loadVar ty ⟨g, 0, none⟩).run P w = .ok v w) :
    (results fn tmps).run P w = .ok (.tuple #[v, tmps.getD u undef]) w := results_row_tmp h tmps w g v hp hl
theorem load_sts (w : World) (g : Nat) (v : Value) (h : w.cell? ⟨g, 0, none⟩ = some v) : (loadVar 49 ⟨g, 0, none⟩).run Tryz.prog w = .ok v w := by
  simp [loadVar, isAgg, run_underlying Tryz.underlying49, h]

/-- The variables of Structured. -/
theorem three_caps (W : World) (rb h cap : Nat) (T : List UInt8) (hR : Blk W rb [.slice none 0 0] 49) (hB : BytesAt W h 0 T) (h1 : rb < W.heap.size) (h2 : h < W.heap.size) (h3 : rb ≠ h) :
    CapS (W.heap.size + 1) rb (W.heap.size + 1 + 1) W.heap.size h cap T (((W.alloc (.cells #[.int .u32 0, .int .i64 0, .int .u32 0, .slice none 0 0, .slice (some ⟨h, 0, none⟩) T.length cap] 90)).alloc (.cells #[.pointer (some ⟨W.heap.size, 0, none⟩)] 84)).alloc (.cells #[.bool false] 4)) := by
  generalize e1 : W.alloc (.cells #[.int .u32 0, .int .i64 0, .int .u32 0, .slice none 0 0, .slice (some ⟨h, 0, none⟩) T.length cap] 90) = w1
  have s1 : w1.heap.size = W.heap.size + 1 := by rw [← e1]; simp
  have b0 : Blk w1 W.heap.size [.int .u32 0, .int .i64 0, .int .u32 0, .slice none 0 0, .slice (some ⟨h, 0, none⟩) T.length cap] 90 := by rw [← e1]; exact Blk.alloc_at rfl [.int .u32 0, .int .i64 0, .int .u32 0, .slice none 0 0, .slice (some ⟨h, 0, none⟩) T.length cap] _
  have r1 := hR.alloc_eq e1
  have k1 : Keeps No W w1 := by rw [← e1]; exact (Keeps.refl No W).alloc _
  generalize e2 : w1.alloc (.cells #[.pointer (some ⟨W.heap.size, 0, none⟩)] 84) = w2
  have s2 : w2.heap.size = W.heap.size + 1 + 1 := by rw [← e2]; simp; exact s1
  have b1 : Blk w2 (W.heap.size + 1) [.pointer (some ⟨W.heap.size, 0, none⟩)] 84 := by rw [← e2]; exact Blk.alloc_at s1.symm [.pointer (some ⟨W.heap.size, 0, none⟩)] _
  have r2 := r1.alloc_eq e2
  have b0 := b0.alloc_eq e2
  have k2 : Keeps No W w2 := by rw [← e2]; exact k1.alloc _
  generalize e3 : w2.alloc (.cells #[.bool false] 4) = w3
  have b2 : Blk w3 (W.heap.size + 1 + 1) [.bool false] 4 := by rw [← e3]; exact Blk.alloc_at s2.symm [.bool false] _
  have r3 := r2.alloc_eq e3
  have b0 := b0.alloc_eq e3
  have b1 := b1.alloc_eq e3
  have k3 : Keeps No W w3 := by rw [← e3]; exact k2.alloc _
  exact ⟨b1, ⟨_, r3⟩, ⟨_, b2⟩, b0.cell 4, hB.keep (S := No) k3 (fun h => h), h3, by omega, by omega⟩

set_option maxRecDepth 100000 in
set_option maxHeartbeats 2000000 in
theorem structured_any (m : Ml) (T : List UInt8) (rs : List SR) (w : World) (ea : Addr) {N : Nat} (FE : FEnv N ea w) (hT : T = mtext m []) (ok : MlOk m) (hm : msize m ≤ 30) (hsu : sureOf m [] = true) (hrs : flat (shapeOf m []) = rs) :
    Calls Tryz.prog 17 #[str T] w (StrPost rs w) := by
  have hmf : ∀ (fn : Fn) (first cap : Array Value) (w : World), (Instr.makeFunc fn first cap).run Tryz.prog w = .ok (.func fn first cap) w := fun _ _ _ _ => rfl
  have hA := Blk.new w [.slice none 0 0] 49
  have KA : Keeps No w (w.alloc (.cells #[.slice none 0 0] 49)) := (Keeps.refl No w).alloc _
  have hsA : (w.alloc (.cells #[.slice none 0 0] 49)).heap.size = w.heap.size + 1 := by simp
  obtain ⟨cap, W, hcv, hrow, hcap, K0, hsz⟩ := run_bytes_cap2 (w.alloc (.cells #[.slice none 0 0] 49)) T
  have HA := Lib.hid (hA.keep_no K0)
  have hby := hrow.bytes
  rw [hsA] at hby
  have HBY := Lib.hid hby
  have HKA := Lib.hid (KA.trans_no K0)
  have HFE := Lib.hid FE
  have HT := Lib.hid hT
  have HOK := Lib.hid ok
  have HSU := Lib.hid hsu
  have HRS := Lib.hid hrs
  rw [hsA] at hcv hsz
  have HSZ := Lib.hid hsz
  clear hby hA hrow FE hT ok hsu hrs K0 hsA hsz KA
  unfold str at hcv ⊢
  go_enter Tryz.func17, Tryz.ntmps17
  go_wp2_with (fail)
  have hW0 : w.heap.size + 2 = W.heap.size := by have := HSZ.out; omega
  have KP : Keeps No W (((W.alloc (.cells #[.int .u32 0, .int .i64 0, .int .u32 0, .slice none 0 0, .slice (some ⟨w.heap.size + 1, 0, none⟩) T.length cap] 90)).alloc (.cells #[.pointer (some ⟨W.heap.size, 0, none⟩)] 84)).alloc (.cells #[.bool false] 4)) := (((Keeps.refl No W).alloc _).alloc _).alloc _
  have CP := three_caps W w.heap.size (w.heap.size + 1) cap T HA.out HBY.out (by omega) (by omega) (by omega)
  have hps : W.heap.size + 3 ≤ (((W.alloc (.cells #[.int .u32 0, .int .i64 0, .int .u32 0, .slice none 0 0, .slice (some ⟨w.heap.size + 1, 0, none⟩) T.length cap] 90)).alloc (.cells #[.pointer (some ⟨W.heap.size, 0, none⟩)] 84)).alloc (.cells #[.bool false] 4)).heap.size := by simp
  generalize (((W.alloc (.cells #[.int .u32 0, .int .i64 0, .int .u32 0, .slice none 0 0, .slice (some ⟨w.heap.size + 1, 0, none⟩) T.length cap] 90)).alloc (.cells #[.pointer (some ⟨W.heap.size, 0, none⟩)] 84)).alloc (.cells #[.bool false] 4)) = wP at *
  have hN := HFE.out.hN
  have TR := stried_any (W.heap.size + 1) w.heap.size (W.heap.size + 1 + 1) (w.heap.size + 1) rs wP (by omega) (by omega) (by omega) (fun w1 k => sclosure_any (W.heap.size + 1) w.heap.size (W.heap.size + 1 + 1) W.heap.size (w.heap.size + 1) cap m T rs w1 ea (HFE.out.keep_no ((HKA.out.trans_no KP).trans_no k)) (CP.keep_no k) hcap (by omega) HT.out HOK.out hm HSU.out HRS.out)
  have HTR := Lib.hid TR
  have HKP := Lib.hid KP
  clear TR CP KP
  refine HTR.out.mono ?_
  rintro e w7 ⟨rfl, v, h2, h3, ⟨ps, e1, r1, q1⟩, hk⟩
  obtain ⟨va, vm, vc, rfl⟩ := rowV r1
  have HB2 := Lib.hid h2
  have HB3 := Lib.hid h3
  have HSS := Lib.hid (show StsAt w7 wP.heap.size (.slice va vm vc) rs from ⟨ps, e1, r1, q1⟩)
  have HK := Lib.hid hk
  clear h2 h3 e1 r1 q1 hk HTR
  go_upto_region 4 with (fail)
  have d2 : w7.cell? ⟨w.heap.size, 0, none⟩ = some (.slice va vm vc) := HB2.out.cell 0
  have d3 : w7.cell? ⟨W.heap.size + 1 + 1, 0, none⟩ = some (.bool true) := HB3.out.cell 0
  have f2 := HB2.out.frozen 0
  clear hmf
  go_region
  go_wp2
  have C2 : Blk (w7.setCell ⟨w.heap.size, 0, none⟩ (.slice va vm vc)).drew w.heap.size [.slice va vm vc] 49 := ((HB2.out.set 0 (.slice va vm vc)).to rfl).drew
  refine bodyPost_ret (results_ct rfl _ _ _ _ rfl (load_sts _ _ _ (C2.cell 0))) rfl ?_
  have hs1 := HKP.out.size
  have kk : Keeps (In [w.heap.size]) w7 (w7.setCell ⟨w.heap.size, 0, none⟩ (.slice va vm vc)).drew := ((Keeps.refl _ w7).setCell (.inl (by simp [In])) _).drew
  refine ⟨_, rfl, StsAt.base (HSS.out.keep kk (fun x hx => by simp [In] at hx; omega)) (by omega), (((HKA.out.trans_no HKP.out).trans HK.out (fun i hi h => ?_))).trans kk (fun i hi h => ?_)⟩
  · rcases h with h | h | h <;> omega
  · simp [In] at h
    omega
end Go.Proofs.YtjbbapodcngnaaaGreatDoor.G
