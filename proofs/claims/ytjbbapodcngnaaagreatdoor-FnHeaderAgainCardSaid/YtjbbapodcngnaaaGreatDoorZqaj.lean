/- The law FnHeaderAgain answers true. From the rows' condition on the package variables to what the walks ask. -/
import Derived.Test.YtjbbapodcngnaaaGreatDoorZqai
import Derived.Test.YtjbbapodcngnaaaGreatDoorZqad
import Derived.Test.YtjbbapodcngnaaaGreatDoorRows
import Derived.ChangeSame
import Derived.ChangeVars
import Derived.JoinedOf
import Derived.RowKit
import Derived.RowKitTokens
import Derived.LaidLaws
import Derived.LaidMore
import Derived.ProofKit
import Derived.OpenShut
import Derived.ShutString
import Derived.ChangeMaps5
import Derived.Stop.Joined
namespace Go.Proofs.YtjbbapodcngnaaaGreatDoor
open Go.RowKit Hdr

theorem map_pair {ps : List PF} {l' : List Ab} (h : ps.map (fun p => (p.k, p.raw)) = l'.map (fun x => (x.k, x.bytes))) : ps.length = l'.length ∧ ∀ (j : Nat) (h1 : j < ps.length) (h2 : j < (l'.map Ab.pf).length), ps[j].k = (l'.map Ab.pf)[j].k ∧ ps[j].raw = (l'.map Ab.pf)[j].raw := by
  have hl : ps.length = l'.length := by have := congrArg List.length h; simpa using this
  refine ⟨hl, fun j h1 h2 => ?_⟩
  have h3 : (ps.map (fun p => (p.k, p.raw)))[j]? = (l'.map (fun x => (x.k, x.bytes)))[j]? := by rw [h]
  have h4 : j < l'.length := by omega
  rw [List.getElem?_map, List.getElem?_map, List.getElem?_eq_getElem h1, List.getElem?_eq_getElem h4] at h3
  simp only [Option.map_some, Option.some.injEq, Prod.mk.injEq] at h3
  rw [List.getElem_map]
  exact h3

set_option maxRecDepth 100000 in
set_option maxHeartbeats 4000000 in
theorem fnHeaderAgain_true (l : List UInt8) (ss : List St) (sv : Value) (ea : Addr) (w : World) {N : Nat} (L : Laid N ea w) (hN : N ≤ w.heap.size) (hst : StepsAt w sv ss) :
    Calls Tryz.prog 4 #[str l, sv] w (TruePost w) := by
  have hls := str_len l
  have hst2 := hst
  obtain ⟨sa, scap, rfl, _⟩ := hst2
  by_cases h1 : 2147483647 < l.length
  · have e1 : decide (2147483647 < l.length) = true := decide_eq_true h1
    have e2 : decide ((2147483647 : Int) < (l.length : Int)) = true := decide_eq_true (by omega)
    clear L hst
    go_enter Tryz.func4, Tryz.ntmps4
    go_wp2
    go_ret
    exact ⟨rfl, Keeps.refl _ _⟩
  have e1 : decide (2147483647 < l.length) = false := decide_eq_false h1
  have e2 : decide ((2147483647 : Int) < (l.length : Int)) = false := decide_eq_false (by omega)
  have H12 := Lib.hid (fits12_any ss _ w hst)
  have HL := Lib.hid L
  have HST := Lib.hid hst
  clear L hst
  by_cases h2 : 2000 < l.length
  · have e3 : decide ((2000 : Int) < (l.length : Int)) = true := decide_eq_true (by omega)
    go_enter Tryz.func4, Tryz.ntmps4
    go_wp2_with (fail)
    refine H12.out.mono ?_
    rintro e w1 ⟨t, rfl, -, K⟩
    cases t <;> (go_wp2; go_ret; exact ⟨rfl, K⟩)
  have e3 : decide ((2000 : Int) < (l.length : Int)) = false := decide_eq_false (by omega)
  have hl2 : l.length ≤ 2000 := by omega
  by_cases h3 : 20 < ss.length
  · have e4 : decide ((20 : Int) < (ss.length : Int)) = true := decide_eq_true (by omega)
    go_enter Tryz.func4, Tryz.ntmps4
    go_wp2_with (fail)
    refine H12.out.mono ?_
    rintro e w1 ⟨t, rfl, -, K⟩
    cases t <;> (go_wp2; go_ret; exact ⟨rfl, K⟩)
  have e4 : decide ((20 : Int) < (ss.length : Int)) = false := decide_eq_false (by omega)
  have hs2 : ss.length ≤ 20 := by omega
  clear h1 h2 h3
  have hshort := short_of_len (c := l) (by omega)
  have hlaw := h9_rhd l
  have HSO := Lib.hid (fun w => specHeaderOf_any l w (by omega))
  have HSS := Lib.hid (fun w1 (k : Keeps No w w1) hz => headerSteps_any l ss _ w1 hl2 (HST.out.keep k) hs2 hz)
  have HIP := Lib.hid (fun w1 (k : Keeps No w w1) ps c l' hr hc => headerPlayed_any l ps c ss l' _ ea w1 hshort hl2 (HL.out.keep_no k) (Nat.le_trans hN k.size) hr (HST.out.keep k) hc hs2)
  have hread : ∀ ps c, rhd l = some (ps, c) → (∀ x ∈ ps.map abP, x.good) ∧ ps.length ≤ 2000 ∧ sumB (ps.map abP) ≤ 6000 := fun ps c h => ⟨fun x hx => by
    obtain ⟨p, hp, rfl⟩ := List.mem_map.1 hx
    exact read_good (rhd_read h p hp) hl2, by have := rhd_len h; omega, by have := sumB_read h; omega⟩
  have HRE := Lib.hid hread
  have HLAW := Lib.hid hlaw
  clear hshort hlaw hread
  generalize h9 l = r at *
  generalize rhd l = p at *
  obtain ⟨fs, taken, ok, sure⟩ := r
  go_enter Tryz.func4, Tryz.ntmps4
  go_wp2_with (fail)
  refine H12.out.mono ?_
  rintro e w1 ⟨t, rfl, ht, K1⟩
  have HT := Lib.hid ht
  have HK1 := Lib.hid K1
  clear ht K1
  cases t with
  | false =>
    go_wp2
    go_ret
    exact ⟨rfl, HK1.out⟩
  | true =>
  go_wp2_with (fail)
  refine (HSO.out _).mono ?_
  rintro e w2 ⟨v2, rfl, -, K2, hn2⟩
  have HK2 := Lib.hid (HK1.out.trans' K2)
  clear K2
  cases sure with
  | false =>
    go_wp2
    go_ret
    exact ⟨rfl, HK2.out⟩
  | true =>
  cases ok with
  | false =>
    go_wp2
    go_ret
    exact ⟨rfl, HK2.out⟩
  | true =>
  obtain ⟨hlw1, hlw2⟩ := HLAW.out rfl
  cases p with
  | none => cases hlw1 rfl
  | some pc =>
  obtain ⟨ps, c⟩ := pc
  obtain ⟨_, hfs, _⟩ := hlw2 ps c rfl
  try simp only at hfs
  subst hfs
  clear hlw1 hlw2
  obtain ⟨hgood, hpl, hsum⟩ := HRE.out fs c rfl
  have HGD := Lib.hid hgood
  have hz := HT.out (by trivial)
  have HZ := Lib.hid hz
  clear hgood hz
  go_wp2_with (fail)
  refine (HSS.out _ HK2.out HZ.out).mono ?_
  rintro e w3 ⟨t, rfl, hch, K3⟩
  have HK3 := Lib.hid (HK2.out.trans' K3)
  clear K3
  cases t with
  | false =>
    go_wp2
    go_ret
    exact ⟨rfl, HK3.out⟩
  | true =>
  obtain ⟨l', hch⟩ := hch rfl
  obtain ⟨hg', hl'⟩ := chain_good hch HGD.out
  rw [List.length_map] at hl'
  have hsum' := chain_sum hch HGD.out
  have hwl : (wrb l').length ≤ 200000 := by
    have h1 : sumB l' ≤ 186000 := by omega
    unfold sumB at h1
    unfold wrb
    rw [List.length_append]
    simp only [List.length_cons, List.length_nil]
    omega
  obtain ⟨hsh, ps', hrw, hpair, hww⟩ := written_read hg'
  obtain ⟨hpl', hpr⟩ := map_pair hpair
  have hwp : wrb (ps'.map abP) = wrb l' := hww
  have HCH := Lib.hid hch
  have HOF := Lib.hid (fun w1 (k : Keeps No w w1) => headerOf_long (wrb l') ea w1 hsh (by omega) (HL.out.keep_no k) (Nat.le_trans hN k.size) (fun ps c h => by rw [hrw] at h; cases h; exact ⟨by omega, by simp⟩))
  have HSM := Lib.hid (fun w1 (k : Keeps No w w1) => headerSame_any (wrb l') ps' [] ea w1 hsh (by omega) (HL.out.keep_no k) (Nat.le_trans hN k.size) hrw (by omega) (by rw [hwp]; omega))
  rw [hrw] at HOF
  rw [hwp] at HSM
  have HPR := Lib.hid hpr
  have HPL := Lib.hid hpl'
  have hlpf : (l'.map Ab.pf).length = l'.length := List.length_map ..
  have hbl : l'.length ≤ 2020 := by omega
  have HLP := Lib.hid hlpf
  clear hg' hch hl' hsum hsum' hsh hrw hpair hww hwp hpr hpl' hlpf HSO HSS
  go_wp2_with (fail)
  refine (HIP.out w3 HK3.out fs c l' rfl HCH.out).mono ?_
  rintro e w4 ⟨v4, rfl, hrow4, K4⟩
  have HR4 := Lib.hid (Row3.of_row (l := l'.map Ab.pf) (by rw [List.length_map]; exact hrow4))
  obtain ⟨oa4, oc4, rfl⟩ := ownsRow_shape hrow4
  have HK4 := Lib.hid (HK3.out.trans' K4)
  clear hrow4 K4 HIP
  go_wp2_with (fail)
  refine (HOF.out w4 HK4.out).mono ?_
  rintro e w5 ⟨K5, v5, rfl, hrow5⟩
  have hR5 := Row3.of_row hrow5
  rw [HPL.out] at hrow5
  obtain ⟨oa5, oc5, rfl⟩ := ownsRow_shape hrow5
  have HR45 := Lib.hid (HR4.out.keep K5 (fun _ _ h => h))
  have HR5 := Lib.hid hR5
  have HK5 := Lib.hid (HK4.out.trans' K5)
  clear hrow5 K5 hR5
  go_wp2_with (fail)
  refine (HSM.out w5 HK5.out).mono ?_
  rintro e w6 ⟨rfl, K6⟩
  have HR46 := Lib.hid (HR45.out.keep K6 (fun _ _ h => h))
  have HR56 := Lib.hid (HR5.out.keep K6 (fun _ _ h => h))
  have HK6 := Lib.hid (HK5.out.trans' K6)
  have hself : (wrb l' == wrb l') = true := by simp
  have htk : ((((wrb l').length : Int) - (([] : List UInt8).length : Int))) = ((wrb l').length : Int) := by simp
  clear K6
  go_wp2
  go_loopg [103] l'.length (fun q s103 wr => ∃ j : Nat, s103 = .int .i64 (j : Int) ∧ j + q = l'.length ∧ Keeps No w6 wr)
  case atStart => exact ⟨0, rfl, by omega, Keeps.refl _ _⟩
  case round =>
    obtain ⟨j, rfl, hjn, K⟩ := hrel
    have HJN := Lib.hid hjn
    have hjl : j ≤ l'.length := by omega
    clear hjn
    by_cases hj : j < l'.length
    · have hjj : (j : Int) < (l'.length : Int) := by omega
      clear htk hself hch
      go_wp2
      have hj4 : j < (l'.map Ab.pf).length := by rw [HLP.out]; exact hj
      have hj5 : j < ps'.length := by rw [HPL.out]; exact hj
      obtain ⟨g4, rfl, -, a0, a1, a2⟩ := (HR46.out.keep K (fun _ _ h => h)).at hj4
      obtain ⟨g5, rfl, -, b0, b1, b2⟩ := (HR56.out.keep K (fun _ _ h => h)).at hj5
      obtain ⟨hk, hr⟩ := HPR.out j hj5 hj4
      rw [hk] at b0
      rw [hr] at b2
      generalize (l'.map Ab.pf)[j] = x at a0 a2 b0 b2
      have hk1 : (x.k == x.k) = true := by simp
      have hr1 : (x.raw == x.raw) = true := by simp
      have HK := Lib.hid K
      clear a1 b1 hk hr K hj4 hj5
      go_quiet (fail)
      go_wp2
      go_roundg (gk - 1)
      case measure => have := HJN.out; omega
      case rel => exact ⟨j + 1, by simp, by have := HJN.out; omega, HK.out.drewN _⟩
    · have hjn : j = l'.length := by omega
      have e5 : decide ((j : Int) < (l'.length : Int)) = false := decide_eq_false (by omega)
      clear hjn
      go_wp2
      go_ret
      exact ⟨rfl, HK6.out.trans' K⟩
end Go.Proofs.YtjbbapodcngnaaaGreatDoor
namespace Go.Proofs.YtjbbapodcngnaaaGreatDoor
open Go.ChangeShapes Go.WideShapes Go.RowKit Hdr

theorem own : ownKnob Tryz.prog.godebug = none := by kernel_rfl
theorem gEof : Tryz.prog.globalNamed "io.EOF" = some 0 := by kernel_rfl
theorem gNoP : Tryz.prog.globalNamed "io.ErrNoProgress" = some 7 := by kernel_rfl
theorem gInv : Tryz.prog.globalNamed "bufio.ErrInvalidUnreadByte" = some 9 := by kernel_rfl
theorem gFull : Tryz.prog.globalNamed "bufio.ErrBufferFull" = some 3 := by kernel_rfl
theorem tEof : (Tryz.prog.globals[0]?).map (·.type) = some 93 := by kernel_rfl
theorem tInv : (Tryz.prog.globals[9]?).map (·.type) = some 93 := by kernel_rfl
theorem tFull : (Tryz.prog.globals[3]?).map (·.type) = some 93 := by kernel_rfl
theorem starName : "*" ++ "errors.errorString" = "*errors.errorString" := by decide
theorem rowErr (u : TypeId) (h : Tryz.prog.typeName? 3 u = some "*errors.errorString") : u = 203 :=
  typeName_ptr_named (nm := "errors.errorString") (by rw [starName]; kernel_rfl) (by kernel_rfl) (by decide) u (by rw [starName]; exact h)
theorem cellsErr : Tryz.prog.cellsOf 205 = 1 := by kernel_rfl
theorem cellsStr : Tryz.prog.cellsOf 9 = 1 := by kernel_rfl

/-- The listed variables of this seat. -/
abbrev laid6 : List (String × DataW Unit) := [("io.EOF", Rows.laid_io_EOF), ("io.ErrNoProgress", Rows.laid_io_ErrNoProgress), ("bufio.ErrInvalidUnreadByte", Rows.laid_bufio_ErrInvalidUnreadByte), ("bufio.ErrBufferFull", Rows.laid_bufio_ErrBufferFull), ("bufio.ErrNegativeCount", Rows.laid_bufio_ErrNegativeCount), ("bufio.errNegativeRead", Rows.laid_bufio_errNegativeRead)]

set_option maxRecDepth 100000 in
theorem laid_of {W : World} (h : laidMetH Tryz.prog laid6 W) : ∃ ea, Laid W.heap.size ea W := by
  rw [MakeChecks.laidMetH_plain _ _ _ (by kernel_rfl)] at h
  obtain ⟨ps, ⟨g0, t0, cs0, f0, p0, q0, hg0, ht0, hv0, hd0, ⟨g1, t1, cs1, f1, p1, q1, hg1, ht1, hv1, hd1, ⟨g2, t2, cs2, f2, p2, q2, hg2, ht2, hv2, hd2, ⟨g3, t3, cs3, f3, p3, q3, hg3, ht3, hv3, hd3, hrest, e3⟩, e2⟩, e1⟩, e0⟩, hnd, hrows⟩ := h
  obtain rfl := Option.some.inj (gEof.symm.trans hg0)
  obtain rfl := Option.some.inj (gNoP.symm.trans hg1)
  obtain rfl := Option.some.inj (gInv.symm.trans hg2)
  obtain rfl := Option.some.inj (gFull.symm.trans hg3)
  obtain rfl := Option.some.inj (tEof.symm.trans ht0)
  obtain rfl := Option.some.inj (tInv.symm.trans ht2)
  obtain rfl := Option.some.inj (tFull.symm.trans ht3)
  clear hrest hd1 hv1 ht1
  subst e3
  subst e2
  subst e1
  subst e0
  obtain ⟨l0⟩ := cs0
  obtain ⟨l2⟩ := cs2
  obtain ⟨l3⟩ := cs3
  have ok0 : ∀ u v, l0 = [.iface u v] → Value.okWide Tryz.prog W .any 0 u v := fun u v e => by
    subst e
    exact (hrows 0 0 (by simp [MemPlace.row])).2 u v (by simpa using World.var?_cell hg0 hv0 0)
  have ok2 : ∀ u v, l2 = [.iface u v] → Value.okWide Tryz.prog W .any 0 u v := fun u v e => by
    subst e
    exact (hrows 9 0 (by simp [MemPlace.row])).2 u v (by simpa using World.var?_cell hg2 hv2 0)
  have ok3 : ∀ u v, l3 = [.iface u v] → Value.okWide Tryz.prog W .any 0 u v := fun u v e => by
    subst e
    exact (hrows 3 0 (by simp [MemPlace.row])).2 u v (by simpa using World.var?_cell hg3 hv3 0)
  obtain ⟨a0, s0, rfl, hc0, hs0, hz0, rfl⟩ := errorString_of_trod Tryz.underlying93 rowErr Tryz.underlying203 Tryz.underlying205 rfl rfl Tryz.underlying9 cellsErr cellsStr hd0 ok0
  obtain ⟨a2, s2, rfl, hc2, hs2, hz2, rfl⟩ := errorString_of_trod Tryz.underlying93 rowErr Tryz.underlying203 Tryz.underlying205 rfl rfl Tryz.underlying9 cellsErr cellsStr hd2 ok2
  obtain ⟨a3, s3, rfl, hc3, hs3, hz3, rfl⟩ := errorString_of_trod Tryz.underlying93 rowErr Tryz.underlying203 Tryz.underlying205 rfl rfl Tryz.underlying9 cellsErr cellsStr hd3 ok3
  obtain ⟨c0, u0, hb0⟩ := (hrows a0.block a0.off (by simp [MemPlace.row])).1
  obtain ⟨c3, u3, hb3⟩ := (hrows a3.block a3.off (by simp [MemPlace.row])).1
  have v0 : W.cell? ⟨0, 0, none⟩ = some (.iface 203 (.pointer (some a0))) := by simpa using World.var?_cell hg0 hv0 0
  have v2 : W.cell? ⟨9, 0, none⟩ = some (.iface 203 (.pointer (some a2))) := by simpa using World.var?_cell hg2 hv2 0
  have v3 : W.cell? ⟨3, 0, none⟩ = some (.iface 203 (.pointer (some a3))) := by simpa using World.var?_cell hg3 hv3 0
  have l2 := World.block_lt_of_cell? W _ v2
  refine ⟨a0, ?_, v0, lt_of_cells hb0, ⟨c0, u0, hb0⟩, a3, v3, lt_of_cells hb3, ⟨c3, u3, hb3⟩, ?_⟩
  · simp at l2
    omega
  · rintro rfl
    simp [MemPlace.row] at hnd

/-- The heap that the door's own run leaves meets the condition. -/
theorem door_met (os : Os) (args : Array Value) : laidMetH Tryz.prog laid6 ((World.doorLaid Tryz.prog 400 os).forCall (fun _ _ => 0) ⟨#[], args, []⟩).memory :=
  laidMetH_of_parts3 (fuel := 8) (laidMet_of_run' 8 (by kernel_rfl) (by kernel_rfl)) (by kernel_rfl) (by kernel_rfl)

theorem kept_of {w w' : World} (k : Keeps No w w') (may : MemPlace → Prop) : w.keptBut w' may :=
  ⟨k.os, k.output, fun i hi => by
    have := World.keptBut_refl w may
    rw [k.block i hi (fun h => h)]
    exact this.2.2 i hi⟩
end Go.Proofs.YtjbbapodcngnaaaGreatDoor
