/- spec: HeaderPlayed. zzFits12: no step's texts are too long. WriteHeader into a buffer; written. The fields of a header that was changed, as they are told. played: a script on a header. HeaderPlayed of the program: played, tried. The law FnHeaderPlayed answers true. How many bytes the fields of a header have; a script's bytes. HeaderSame of the program. -/
import Derived.Test.YtjbbapodcngnaaaGreatDoorZqag
import Derived.Test.YtjbbapodcngnaaaGreatDoorShelfB
import Derived.Defers
import Derived.Recover
import Derived.Test.YtjbbapodcngnaaaGreatDoorZqah
namespace Go.Proofs.YtjbbapodcngnaaaGreatDoor
open Go.RowKit Hdr

/-- What the specification's HeaderPlayed leaves. -/
def SpPost (l' : List Ab) (w : World) (e : Ending) (w' : World) : Prop :=
  ∃ v, e = .returned (.tuple #[v, str (wrb l')]) ∧ w'.ownsRow w.heap.size 38 3 v l'.length (hfs (l'.map Ab.pf)) ∧ Keeps No w w'

set_option maxRecDepth 100000 in
set_option maxHeartbeats 2000000 in
theorem specPlayed_any (l : List UInt8) (ss : List St) (l' : List Ab) (sv : Value) (w : World) (hlen : l.length ≤ 2000) (hst : StepsAt w sv ss) (hsn : ss.length ≤ 20) (hz : ∀ s ∈ ss, s.key.length ≤ 2147483647) (hch : Chain ss ((h9 l).fs.map abP) l') (hg : ∀ x ∈ (h9 l).fs.map abP, x.good) (hwl : (wrb l').length ≤ 100000000) :
    Calls Tryz.prog 9 #[str l, sv] w (SpPost l' w) := by
  have H9 := Lib.hid (header9_any l w (by omega))
  have hst2 := hst
  obtain ⟨sa, scap, rfl, _⟩ := hst2
  have HST := Lib.hid hst
  have HZ := Lib.hid hz
  have HC := Lib.hid hch
  have HG := Lib.hid hg
  have HWL := Lib.hid hwl
  clear hst hz hch hg hwl
  generalize h9 l = r0 at *
  obtain ⟨r0f, r0t, r0o, r0s⟩ := r0
  go_enter Tryz.func9, Tryz.ntmps9
  go_wp2_with (fail)
  refine H9.out.mono ?_
  rintro e w1 ⟨v1, rfl, hrow, K1, hn1⟩
  simp only at hrow hn1
  have hR0 : Row9 w1 v1 ((r0f.map abP).map abF) := by
    rw [f9s_f9c] at hrow
    have := Row9.of_row (l := r0f.map rawF) (by rw [List.length_map]; exact hrow)
    rw [List.map_map]
    exact this
  have HR0 := Lib.hid hR0
  have HK1 := Lib.hid K1
  clear hrow hR0 K1
  go_wp2
  go_loopg [6, 20] ss.length (fun q s6 s20 wr => ∃ (i : Nat) (la : List Ab), s20 = .int .i64 (i : Int) ∧ i + q = ss.length ∧ Row9 wr s6 (la.map abF) ∧ Chain (ss.drop i) la l' ∧ la.length ≤ 2000 + i ∧ Keeps No w wr ∧ ∀ x ∈ la, x.good)
  case atStart => exact ⟨0, r0f.map abP, rfl, by omega, HR0.out, HC.out, by rw [List.length_map]; omega, HK1.out, HG.out⟩
  case round =>
    obtain ⟨i, la, rfl, hin, hrow, hch, hla, K, hgd⟩ := hrel
    have HIN := Lib.hid hin
    have HR := Lib.hid hrow
    have HCH := Lib.hid hch
    have HK := Lib.hid K
    have HGD := Lib.hid hgd
    obtain ⟨va, vc, hv⟩ := hrow.shape
    rw [List.length_map] at hv
    subst hv
    have hil : i ≤ ss.length := by omega
    clear hin hrow hch K HR0 HK1 hgd
    by_cases hi : i < ss.length
    · have hii : (i : Int) < (ss.length : Int) := by omega
      obtain ⟨sb, so, rfl, _, hscap, c0, c1, c2, c3⟩ := (HST.out.keep HK.out).cells hi
      have hzi := HZ.out ss[i] (List.getElem_mem _)
      have hch2 := HCH.out
      rw [List.drop_eq_getElem_cons hi] at hch2
      generalize ss[i] = s at *
      obtain ⟨op, key, val, n⟩ := s
      obtain ⟨l1, hok, hgs, hch3⟩ := hch2
      simp only at c0 c1 c2 c3 hzi
      have HSP := Lib.hid (stepped9_any ⟨op, key, val, n⟩ la l1 hok (by simp only; omega) (Nat.le_trans hgs.1 (by decide)) _ wr HR.out (by omega))
      have HSG := Lib.hid (step_good hok hgs HGD.out)
      have HC3 := Lib.hid hch3
      unfold stepV at HSP
      clear hch3 hgs hok
      go_wp2_with (fail)
      refine HSP.out.mono ?_
      intro e w2 hp
      obtain ⟨v2, rfl, hrow2, K2⟩ := hp
      have HR2 := Lib.hid (row9_of hrow2)
      have HK2 := Lib.hid (HK.out.trans' K2)
      clear hrow2 K2 c0 c1 c2 c3
      go_wp2
      go_roundg (gk - 1)
      case measure => have := HIN.out; omega
      case rel => exact ⟨i + 1, l1, by simp, by have := HIN.out; omega, HR2.out, HC3.out, by have := HSG.out.2; omega, HK2.out, HSG.out.1⟩
    · have hin : i = ss.length := by omega
      have e1 : decide ((i : Int) < (ss.length : Int)) = false := decide_eq_false (by omega)
      have hfin : la = l' := by
        have := HCH.out
        rw [hin, List.drop_length] at this
        exact this
      subst hfin
      clear hin
      have hfine : ∀ x ∈ la, x.fine := fun x hx => (HGD.out x hx).1.1
      have HFI := Lib.hid hfine
      clear hfine
      go_wp2_with (fail)
      refine (told9_ab la HFI.out _ _ HR.out (by omega)).mono ?_
      rintro e w2 ⟨v2, rfl, hrow2, K2⟩
      have HR2 := Lib.hid hrow2
      have HRW := Lib.hid (HR.out.keep K2)
      have HK2 := Lib.hid (HK.out.trans' K2)
      clear hrow2 K2
      go_wp2_with (fail)
      refine (written9_any la HFI.out _ _ HRW.out (by omega) HWL.out).mono ?_
      rintro e w3 ⟨rfl, K3⟩
      have HR3 := Lib.hid (ownsRow_keep HR2.out K3 (fun _ _ h => h))
      have HK3 := Lib.hid (HK2.out.trans' K3)
      have hsz := HK.out.size
      clear K3
      go_wp2
      go_ret2
      refine ⟨v2, rfl, ?_, HK3.out⟩
      have h1 := ownsRow_mono HR3.out hsz
      rw [List.length_map] at h1
      exact h1
end Go.Proofs.YtjbbapodcngnaaaGreatDoor
namespace Go.Proofs.YtjbbapodcngnaaaGreatDoor
open Go.RowKit Hdr

def fits (s : St) : Prop := s.key.length ≤ 2147483647 ∧ s.val.length ≤ 2147483647

set_option maxRecDepth 100000 in
theorem fits13_any (s : St) (w : World) :
    Calls Tryz.prog 21 #[stepV s] w fun e w' => ∃ t : Bool, e = .returned (.bool t) ∧ (t = true → fits s) ∧ Keeps No w w' := by
  obtain ⟨op, key, val, n⟩ := s
  have kA : Keeps No w (w.alloc (.cells #[.int .i64 op, str key, str val, .int .i64 n] 56)) := (Keeps.refl No w).alloc _
  unfold stepV
  have hlk := str_len key
  have hlv := str_len val
  by_cases h1 : 2147483647 < key.length
  · have e1 : decide (2147483647 < key.length) = true := decide_eq_true h1
    have e2 : decide ((2147483647 : Int) < (key.length : Int)) = true := decide_eq_true (by omega)
    go_enter Tryz.func21, Tryz.ntmps21
    go_wp2
    go_ret
    exact ⟨false, rfl, (fun h => by cases h), kA⟩
  · have e1 : decide (2147483647 < key.length) = false := decide_eq_false h1
    have e2 : decide ((2147483647 : Int) < (key.length : Int)) = false := decide_eq_false (by omega)
    by_cases h2 : 2147483647 < val.length
    · have e3 : decide (2147483647 < val.length) = true := decide_eq_true h2
      have e4 : decide ((2147483647 : Int) < (val.length : Int)) = true := decide_eq_true (by omega)
      go_enter Tryz.func21, Tryz.ntmps21
      go_wp2
      go_ret
      exact ⟨false, rfl, (fun h => by cases h), kA⟩
    · have e3 : decide (2147483647 < val.length) = false := decide_eq_false h2
      have e4 : decide ((2147483647 : Int) < (val.length : Int)) = false := decide_eq_false (by omega)
      have hf : fits ⟨op, key, val, n⟩ := ⟨by show key.length ≤ _; omega, by show val.length ≤ _; omega⟩
      have HF := Lib.hid hf
      clear hf
      go_enter Tryz.func21, Tryz.ntmps21
      go_wp2
      go_ret
      exact ⟨true, rfl, fun _ => HF.out, kA⟩

set_option maxRecDepth 100000 in
set_option maxHeartbeats 1000000 in
theorem fits12_any (ss : List St) (sv : Value) (w : World) (hst : StepsAt w sv ss) :
    Calls Tryz.prog 6 #[sv] w fun e w' => ∃ t : Bool, e = .returned (.bool t) ∧ (t = true → ∀ s ∈ ss, fits s) ∧ Keeps No w w' := by
  have hst2 := hst
  obtain ⟨sa, scap, rfl, _⟩ := hst2
  have HST := Lib.hid hst
  clear hst
  by_cases h1 : 2147483647 < ss.length
  · have e2 : decide ((2147483647 : Int) < (ss.length : Int)) = true := decide_eq_true (by omega)
    go_enter Tryz.func6, Tryz.ntmps6
    go_wp2
    go_ret
    exact ⟨false, rfl, (fun h => by cases h), Keeps.refl _ _⟩
  have e2 : decide ((2147483647 : Int) < (ss.length : Int)) = false := decide_eq_false (by omega)
  have h2 : ss.length ≤ 2147483647 := by omega
  clear h1
  go_enter Tryz.func6, Tryz.ntmps6
  go_wp2
  go_loopg [10] ss.length (fun q s10 wr => ∃ i : Nat, s10 = .int .i64 (i : Int) ∧ i + q = ss.length ∧ (∀ s ∈ ss.take i, fits s) ∧ Keeps No w wr)
  case atStart => exact ⟨0, rfl, by omega, (fun s h => by simp at h), Keeps.refl _ _⟩
  case round =>
    obtain ⟨i, rfl, hin, hft, K⟩ := hrel
    have HIN := Lib.hid hin
    have HFT := Lib.hid hft
    have HK := Lib.hid K
    have hil : i ≤ ss.length := by omega
    clear hin hft K
    by_cases hi : i < ss.length
    · have hii : (i : Int) < (ss.length : Int) := by omega
      obtain ⟨sb, so, rfl, _, hscap, c0, c1, c2, c3⟩ := (HST.out.keep HK.out).cells hi
      have htk : ss.take (i + 1) = ss.take i ++ [ss[i]] := List.take_succ_eq_append_getElem hi
      have HTK := Lib.hid htk
      clear htk
      generalize ss[i] = s at *
      have kA : Keeps No wr (wr.alloc (.cells #[.int .i64 s.op, str s.key, str s.val, .int .i64 s.n] 56)) := (Keeps.refl No wr).alloc _
      have H13 := Lib.hid (fun w => fits13_any s w)
      unfold stepV at H13
      obtain ⟨op, key, val, n⟩ := s
      simp only at c0 c1 c2 c3
      have HKA := Lib.hid (HK.out.trans' kA)
      clear kA
      go_wp2_with (fail)
      refine (H13.out _).mono ?_
      rintro e w2 ⟨t, rfl, ht, K2⟩
      have HT := Lib.hid ht
      have HK2 := Lib.hid (HKA.out.trans' K2)
      clear ht K2 c0 c1 c2 c3
      cases t with
      | false =>
        go_wp2
        go_ret
        exact ⟨false, rfl, (fun h => by cases h), HK2.out⟩
      | true =>
        have hwi : IntKind.i64.wrap ((i : Int) + 1) = (i : Int) + 1 := by rw [IntKind.wrap_i64]; omega
        go_wp2
        go_roundg (gk - 1)
        case measure => have := HIN.out; omega
        case rel =>
          refine ⟨i + 1, by simp, by have := HIN.out; omega, fun s hs => ?_, HK2.out⟩
          rw [HTK.out] at hs
          rcases List.mem_append.1 hs with hs | hs
          · exact HFT.out s hs
          · rw [List.mem_singleton.1 hs]
            exact HT.out (by trivial)
    · have hin : i = ss.length := by omega
      have e1 : decide ((i : Int) < (ss.length : Int)) = false := decide_eq_false (by omega)
      have hall : ∀ s ∈ ss, fits s := fun s hs => HFT.out s (by rw [hin, List.take_length]; exact hs)
      have HALL := Lib.hid hall
      clear hin hall
      go_wp2
      go_ret
      exact ⟨true, rfl, fun _ => HALL.out, HK.out⟩
end Go.Proofs.YtjbbapodcngnaaaGreatDoor
namespace Go.Proofs.YtjbbapodcngnaaaGreatDoor
open Go.RowKit Hdr

theorem method_write (b : Nat) (w : World) : (method 477 125 (.pointer (some ⟨b, 0, none⟩)) "Write").run Tryz.prog w = .ok (240, .pointer (some ⟨b, 0, none⟩)) w := by kernel_rfl

/-- A buffer that holds these bytes. -/
abbrev Bufd (w : World) (B b : Nat) (l : List UInt8) : Prop := Lib.IsBuffer 123 5 B b (u8s l) w
theorem Bufd.keep_no {w w' : World} {B b : Nat} {l : List UInt8} (h : Bufd w B b l) (k : Keeps No w w') : Bufd w' B b l := by
  obtain ⟨h1, v, lr, h2, h3, h4⟩ := h
  exact ⟨h1, v, lr, (k.block b (Array.getElem?_eq_some_iff.1 h2).1 (fun h => h)).trans h2, ownsRow_keep h3 k (fun _ _ h => h), h4⟩
theorem bufWrite_any (B b : Nat) (l c : List UInt8) (rb ro cap : Nat) (w : World) (h : Bufd w B b l) (hBw : B ≤ w.heap.size) (hb : rb ≠ b) (hc : BytesAt w rb ro c) (hlim : l.length + c.length ≤ 1000000000) :
    Calls Tryz.prog 240 #[.pointer (some ⟨b, 0, none⟩), .slice (some ⟨rb, ro, none⟩) c.length cap] w fun e w' => e = .returned (.tuple #[.int .i64 c.length, .nilIface]) ∧ Bufd w' B b (l ++ c) ∧ Below B w w' ∧ Lib.OthersKept 5 (some b) w w' := by
  have := Tryz.Buffer_Write_any B b (u8s l) (u8s c) ⟨rb, ro, none⟩ c.length cap w h hBw (u8s_one l) (u8s_length c) hb hc.cells (u8s_one c) (by rw [u8s_length]; omega)
  refine this.mono ?_
  rintro e w' ⟨rfl, h1, h2, h3⟩
  exact ⟨rfl, by unfold Bufd; rw [u8s_append]; exact h1, h2, h3⟩

theorem at_rev {pre post : List Fd} {f : Fd} : ((pre ++ f :: post).reverse.map (·.blk))[post.length]? = some f.blk := by
  simp

set_option maxRecDepth 100000 in
set_option maxHeartbeats 2000000 in
theorem writeHeader_any (lb cap b : Nat) (m : Option Nat) (fs : List Fd) (w0 w : World) (h : HRd w0 lb cap fs) (hg : ∀ f ∈ fs, f.ab.fine) (k : Keeps No w0 w) (hb : Bufd w w0.heap.size b []) (hn : fs.length ≤ 1000000) (hl : (wrb (fs.map Fd.ab)).length ≤ 100000000) :
    Calls Tryz.prog 56 #[.iface 125 (.pointer (some ⟨b, 0, none⟩)), .agg #[.slice (some ⟨lb, 0, none⟩) fs.length cap, .map m]] w fun e w' =>
      e = .returned .nilIface ∧ Bufd w' w0.heap.size b (wrb (fs.map Fd.ab)) ∧ Keeps No w0 w' := by
  have HH := Lib.hid h
  have HG := Lib.hid hg
  have HB := Lib.hid hb
  have HK := Lib.hid k
  have HL := Lib.hid hl
  have hbw := Lib.IsBuffer.lt hb
  have hb0 : w0.heap.size ≤ b := hb.1
  have mW := method_write b
  clear h hg hb k hl
  have hbox0 : Blk (w.alloc (.cells #[.slice (some ⟨lb, 0, none⟩) fs.length cap, .map m] 74)) w.heap.size [.slice (some ⟨lb, 0, none⟩) fs.length cap, .map m] 74 := Blk.new w _ _
  have HBX := Lib.hid hbox0
  clear hbox0
  go_enter Tryz.func56, Tryz.ntmps56
  go_wp2
  go_loopg [5] fs.length (fun n s5 wr => ∃ (i : Int) (pre post : List Fd), s5 = .int .i64 i ∧ i = (n : Int) - 1 ∧ fs = pre ++ post ∧ post.length = n ∧ Bufd wr w0.heap.size b ((pre.map Fd.ab).flatMap Ab.bytes) ∧ Keeps No w0 wr ∧ Blk wr w.heap.size [.slice (some ⟨lb, 0, none⟩) fs.length cap, .map m] 74)
  case atStart => exact ⟨_, [], fs, by first | rfl | (rw [IntKind.wrap_i64]; congr 1; omega), rfl, rfl, rfl, HB.out.keep_no ((Keeps.refl No w).alloc _), HK.out.alloc _, HBX.out⟩
  case round =>
    obtain ⟨i, pre, post, rfl, hi, hfs, hpl, hbuf, K, hbox⟩ := hrel
    have c0 : wr.cell? ⟨w.heap.size, 0, none⟩ = some (.slice (some ⟨lb, 0, none⟩) fs.length cap) := hbox.cell 0
    have HBU := Lib.hid hbuf
    have HKR := Lib.hid K
    have HBO := Lib.hid hbox
    have HFS := Lib.hid hfs
    have HPL := Lib.hid hpl
    clear hbuf K hbox hfs hpl
    cases post with
    | nil =>
      have hi1 : i = -1 := by have := HPL.out; simp at this; omega
      subst hi1
      have hpre : pre = fs := by have := HFS.out; simpa using this.symm
      subst hpre
      have HI := Lib.hid hi
      clear hi
      have hbl : Below w0.heap.size w0 wr := HKR.out.below
      have hszr := HKR.out.size
      have hbr := Lib.IsBuffer.lt HBU.out
      have hby : BytesAt (wr.alloc (.cells #[.int .u8 13, .int .u8 10] 5)) wr.heap.size 0 [13, 10] := BytesAt.of_blk (Blk.new wr [.int .u8 13, .int .u8 10] 5) rfl
      have HBY := Lib.hid hby
      clear hby c0
      go_wp2_with (fail)
      refine (bufWrite_any w0.heap.size b _ [13, 10] wr.heap.size 0 2 _ (HBU.out.keep_no ((Keeps.refl No wr).alloc _)) (by simp; omega) (by omega) HBY.out (by
        have := HL.out
        unfold wrb at this
        rw [List.length_append] at this
        omega)).mono ?_
      rintro e w2 ⟨rfl, hbuf2, hbel, hoth⟩
      have HB2 := Lib.hid hbuf2
      have K2 : Keeps No w0 w2 := Keeps.of_below ((HKR.out.alloc _).below.trans hbel)
      have HK2 := Lib.hid K2
      clear hbuf2 hbel hoth K2 hbl
      go_wp2
      go_ret
      exact ⟨rfl, HB2.out, HK2.out⟩
    | cons f post =>
      have hi1 : i = (post.length : Int) := by have := HPL.out; simp at this; omega
      subst hi1
      have hlen : fs.length = pre.length + (post.length + 1) := by have := congrArg List.length HFS.out; simpa using this
      have hix : (post.length : Int) < (fs.length : Int) := by omega
      have hixn : post.length < fs.length := by omega
      have hmem : f ∈ fs := by rw [HFS.out]; simp
      have hat : (fs.reverse.map (·.blk))[post.length]? = some f.blk := by rw [HFS.out]; exact at_rev
      have c1 : wr.cell? ⟨lb, post.length, none⟩ = some (.pointer (some ⟨f.blk, 0, none⟩)) := (HH.out.L.keep HKR.out (fun h => h)).ptrs.cell_of hat
      have HFR := Lib.hid (fun w1 (k : Keeps No w0 w1) => fieldBytes_any f w0 w1 (HH.out.F f hmem) k (HG.out f hmem))
      have hbytes : ((pre.map Fd.ab).flatMap Ab.bytes).length + f.ab.bytes.length ≤ 100000000 := by
        have := HL.out
        unfold wrb at this
        rw [HFS.out] at this
        simp only [List.map_append, List.map_cons, List.flatMap_append, List.flatMap_cons, List.length_append] at this
        omega
      have hnew : ((pre ++ [f]).map Fd.ab).flatMap Ab.bytes = (pre.map Fd.ab).flatMap Ab.bytes ++ f.ab.bytes := by simp
      have hfs2 : fs = (pre ++ [f]) ++ post := by rw [HFS.out]; simp
      generalize hbb : f.ab.bytes = bb at *
      have HI := Lib.hid hi
      have HNEW := Lib.hid hnew
      have HFS2 := Lib.hid hfs2
      have HLN := Lib.hid hlen
      clear hi hnew hfs2 hlen hmem hat hbb
      go_wp2_with (fail)
      refine (HFR.out _ HKR.out).mono ?_
      rintro e w1 ⟨rb, ro, rcap, rfl, hby, K1, hrb⟩
      have hbr := Lib.IsBuffer.lt HBU.out
      have hs1 := K1.size
      have hszr := HKR.out.size
      have HBY := Lib.hid hby
      have HK1 := Lib.hid (HKR.out.trans' K1)
      have HBU1 := Lib.hid (HBU.out.keep_no K1)
      have HBO1 := Lib.hid (HBO.out.keep_no K1)
      have hne : rb ≠ b := by rcases hrb with h | h <;> omega
      clear hby K1 hrb c0 c1
      go_wp2_with (fail)
      refine (bufWrite_any w0.heap.size b _ _ rb ro rcap w1 HBU1.out (by omega) hne HBY.out (by omega)).mono ?_
      rintro e w2 ⟨rfl, hbuf2, hbel, hoth⟩
      have hbox2 : Blk w2 w.heap.size [.slice (some ⟨lb, 0, none⟩) fs.length cap, .map m] 74 := hoth _ _ HBO1.out (by simp; omega) (fun c fz h => by injection h with _ h2 _; exact absurd h2 (by decide))
      have K2 : Keeps No w0 w2 := Keeps.of_below (HK1.out.below.trans hbel)
      have HB2 := Lib.hid hbuf2
      have HK2 := Lib.hid K2
      have HBO2 := Lib.hid hbox2
      clear hbuf2 hbel hoth K2 hbox2
      have hw : IntKind.i64.wrap ((post.length : Int) - 1) = (post.length : Int) - 1 := by rw [IntKind.wrap_i64]; omega
      go_wp2
      go_roundg (gk - 1)
      case measure => have := HPL.out; simp at this; omega
      case rel =>
        have h1 := HPL.out
        simp at h1
        refine ⟨_, pre ++ [f], post, rfl, by omega, HFS2.out, by omega, ?_, HK2.out, HBO2.out⟩
        rw [HNEW.out]
        exact HB2.out

set_option maxRecDepth 100000 in
set_option maxHeartbeats 1000000 in
theorem written_any (lb cap : Nat) (m : Option Nat) (fs : List Fd) (w : World) (h : HRd w lb cap fs) (hg : ∀ f ∈ fs, f.ab.fine) (hn : fs.length ≤ 1000000) (hl : (wrb (fs.map Fd.ab)).length ≤ 100000000) :
    Calls Tryz.prog 35 #[.agg #[.slice (some ⟨lb, 0, none⟩) fs.length cap, .map m]] w fun e w' => e = .returned (.tuple #[str (wrb (fs.map Fd.ab)), .bool true]) ∧ Keeps No w w' := by
  have kA : Keeps No w (w.alloc (.cells #[.slice (some ⟨lb, 0, none⟩) fs.length cap, .map m] 74)) := (Keeps.refl No w).alloc _
  have hsz : (w.alloc (.cells #[.slice (some ⟨lb, 0, none⟩) fs.length cap, .map m] 74)).heap.size = w.heap.size + 1 := by simp
  have hB0 := Lib.fresh_isBuffer 123 5 (w.alloc (.cells #[.slice (some ⟨lb, 0, none⟩) fs.length cap, .map m] 74))
  have HW := Lib.hid (writeHeader_any lb cap (w.heap.size + 1) m fs _ _ (h.keep_no kA) hg ((Keeps.refl No _).alloc _) (by rw [hsz] at hB0 ⊢; exact hB0) hn hl)
  have HKA := Lib.hid kA
  clear kA hB0 h hg hl
  go_enter Tryz.func35, Tryz.ntmps35
  go_wp2_with (fail)
  refine HW.out.mono ?_
  rintro e w1 ⟨rfl, hb, K⟩
  have HS := Lib.hid (Tryz.Buffer_String _ (w.heap.size + 1) (wrb (fs.map Fd.ab)) w1 hb)
  have HK := Lib.hid (HKA.out.trans' K)
  clear hb K
  go_wp2_with (fail)
  refine HS.out.mono ?_
  rintro e w2 ⟨rfl, q, rfl⟩
  go_wp2
  go_ret2
  exact ⟨rfl, HK.out.drewN q⟩
end Go.Proofs.YtjbbapodcngnaaaGreatDoor
namespace Go.Proofs.YtjbbapodcngnaaaGreatDoor
open Go.RowKit Hdr

theorem At.keep_no {w w' : World} {ib hb lb n cap : Nat} {m : Option Nat} {j fb : Nat} {rv : Value} {k v : List UInt8} (h : At w ib hb lb n cap m j fb rv k v) (K : Keeps No w w') : At w' ib hb lb n cap m j fb rv k v :=
  ⟨h.I.keep K (fun h => h) (fun h => h), K.cell h.c (fun h => h), h.F.keep_no K⟩

set_option maxRecDepth 100000 in
theorem rawIt_any (ib hb lb n cap : Nat) (m : Option Nat) (j : Nat) (f : Fd) (w0 w : World) (hI : It w ib hb lb n cap m j) (hj : j < n) (hn : n ≤ 1000000) (hc : w.cell? ⟨lb, n - 1 - j, none⟩ = some (.pointer (some ⟨f.blk, 0, none⟩))) (hF : FdP w0 [] f) (k : Keeps No w0 w) (hf : f.ab.fine) :
    Calls Tryz.prog 252 #[.pointer (some ⟨ib, 0, none⟩)] w fun e w' => ∃ rb ro cap : Nat, e = .returned (.tuple #[.slice (some ⟨rb, ro, none⟩) f.ab.bytes.length cap, .nilIface]) ∧ BytesAt w' rb ro f.ab.bytes ∧ Keeps No w w' ∧ (rb < w0.heap.size ∨ w.heap.size ≤ rb) := by
  have HI := Lib.hid (field_any ib hb lb n cap m j f.blk w hI hj hn hc)
  have HR := Lib.hid (fun q => fieldBytes_any f w0 (w.drewN q) hF (k.drewN q) hf)
  clear hI hc hF hf k
  go_enter Tryz.func252, Tryz.ntmps252
  go_wp2_with (fail)
  refine HI.out.mono ?_
  rintro e w1 ⟨rfl, q, rfl⟩
  go_wp2_with (fail)
  refine (HR.out q).mono ?_
  rintro e w2 ⟨rb, ro, rcap, rfl, hby, K, hrb⟩
  have HBY := Lib.hid hby
  have HK := Lib.hid K
  have HRB := Lib.hid hrb
  clear hby K hrb
  go_wp2
  go_ret2
  exact ⟨rb, ro, rcap, rfl, HBY.out, ((Keeps.refl No w).drewN q).trans' HK.out, HRB.out⟩

set_option maxRecDepth 100000 in
set_option maxHeartbeats 2000000 in
theorem fieldsOfMu_any (lb cap : Nat) (m : Option Nat) (fs : List Fd) (ps : List PF) (hps : ps = fs.map (fun f => f.ab.pf)) (w : World) (h : HRd w lb cap fs) (hg : ∀ f ∈ fs, f.ab.fine) (hn : fs.length ≤ 100000) :
    Calls Tryz.prog 34 #[.agg #[.slice (some ⟨lb, 0, none⟩) fs.length cap, .map m]] w (FofPost ps w) := by
  have hlbw := h.L.ptrs.lt
  have hlen : fs.length = ps.length := by rw [hps, List.length_map]
  have HT := Lib.hid hps
  have HP := Lib.hid h.L.ptrs
  have HF := Lib.hid h.F
  have HG := Lib.hid hg
  have HL := Lib.hid hlen
  clear h hg hps hlen
  generalize hfl : fs.length = n at *
  have HFL := Lib.hid hfl
  clear hfl
  go_enter Tryz.func34, Tryz.ntmps34
  go_wp2_with (fail)
  refine (fields_any w.heap.size _).mono ?_
  rintro e w1 ⟨rfl, rfl⟩
  have hsz : (w.alloc (.cells #[.slice (some ⟨lb, 0, none⟩) n cap, .map m] 74)).heap.size = w.heap.size + 1 := by simp
  have hIt0 : It ((w.alloc (.cells #[.slice (some ⟨lb, 0, none⟩) n cap, .map m] 74)).alloc (.cells #[.pointer (some ⟨w.heap.size, 0, none⟩), .int .i64 (-1)] 157)) (w.heap.size + 1) w.heap.size lb n cap m (-1) := by
    refine ⟨?_, (Blk.new w _ _).alloc _⟩
    have := Blk.new (w.alloc (.cells #[.slice (some ⟨lb, 0, none⟩) n cap, .map m] 74)) [.pointer (some ⟨w.heap.size, 0, none⟩), .int .i64 (-1)] 157
    rwa [hsz] at this
  have K0 : Keeps No w ((w.alloc (.cells #[.slice (some ⟨lb, 0, none⟩) n cap, .map m] 74)).alloc (.cells #[.pointer (some ⟨w.heap.size, 0, none⟩), .int .i64 (-1)] 157)) := ((Keeps.refl No w).alloc _).alloc _
  have HI0 := Lib.hid hIt0
  have mN := method_next (w.heap.size + 1)
  have mR := method_raw (w.heap.size + 1)
  have mK := method_key (w.heap.size + 1)
  have mV := method_value (w.heap.size + 1)
  clear hsz hIt0
  go_wp2
  go_loopg [3] n (fun q s3 wr => ∃ j : Nat, j + q = n ∧ wr.ownsRow (w.heap.size + 2) 38 3 s3 j (hfs (ps.take j)) ∧ It wr (w.heap.size + 1) w.heap.size lb n cap m ((j : Int) - 1) ∧ Keeps (Up w.heap.size []) w wr ∧ w.heap.size + 2 ≤ wr.heap.size)
  case atStart => exact ⟨0, by omega, World.ownsRow_nil _ _ _ _, HI0.out, K0.of_no, by simp⟩
  case round =>
    obtain ⟨j, hjn, hrow, hIt, K, hsz⟩ := hrel
    have HJN := Lib.hid hjn
    have HROW := Lib.hid hrow
    have HIT := Lib.hid hIt
    have hj0 : j ≤ n := by omega
    clear hjn hrow hIt
    go_wp2_with (fail)
    refine (next_any (w.heap.size + 1) w.heap.size lb n cap m ((j : Int) - 1) wr HIT.out (by omega) (by omega) (by omega)).mono ?_
    rintro e w2 ⟨rfl, hIt2, K2⟩
    have ej : (j : Int) - 1 + 1 = (j : Int) := by omega
    rw [ej] at hIt2 ⊢
    have hrow2 : w2.ownsRow (w.heap.size + 2) 38 3 _ j (hfs (ps.take j)) := HROW.out.kept (row := some (w.heap.size + 1)) ⟨K2.os, K2.tape, K2.output, K2.size, fun k hk hne => K2.block k hk (fun h => hne (by simp [In] at h; rw [h]))⟩ (by
      rcases h0 : Value.ownBlock _ with _ | b
      · exact .inl rfl
      · refine .inr (fun h => ?_)
        have := (HROW.out.lt _ h0).1
        simp at h
        omega)
    have K02 : Keeps (Up w.heap.size []) w w2 := K.trans' (K2.mono (fun k _ h => .inr (by simp [In] at h; omega)))
    have hsz2 : w.heap.size + 2 ≤ w2.heap.size := by have := K2.size; omega
    have HI2 := Lib.hid hIt2
    have HR2 := Lib.hid hrow2
    clear hIt2 hrow2 HIT HROW
    by_cases hj : j < n
    · have e1 : decide ((j : Int) < (n : Int)) = true := decide_eq_true (by omega)
      rw [e1]
      clear e1
      have hjf : j < fs.length := by have := HFL.out; omega
      have hjp : j < ps.length := by have := HL.out; omega
      have hmem : fs[j] ∈ fs := List.getElem_mem _
      have hfd : FdP w2 [] fs[j] := (HF.out fs[j] hmem).step K02 (fun x hx h => by rcases h with h | h; cases h; omega) (fun x h => by cases h)
      have hpsj : ps[j] = fs[j].ab.pf := by
        have h1 := HT.out
        subst h1
        rw [List.getElem_map]
      have hcell : w2.cell? ⟨lb, n - 1 - j, none⟩ = some (.pointer (some ⟨fs[j].blk, 0, none⟩)) := by
        refine (HP.out.keep K02 (fun h => by rcases h with h | h; cases h; omega)).cell_of ?_
        have := HFL.out
        rw [List.getElem?_map, List.getElem?_reverse (by omega)]
        rw [show fs.length - 1 - (n - 1 - j) = j by omega, List.getElem?_eq_getElem hjf]
        rfl
      have hB := hfd.B
      have hAt : At w2 (w.heap.size + 1) w.heap.size lb n cap m j fs[j].blk fs[j].rv fs[j].k fs[j].v := ⟨HI2.out, hcell, hB⟩
      have htk : ps.take (j + 1) = ps.take j ++ [ps[j]] := List.take_succ_eq_append_getElem hjp
      have HRI := Lib.hid (rawIt_any (w.heap.size + 1) w.heap.size lb n cap m j fs[j] w w2 HI2.out hj (by omega) hcell (HF.out fs[j] hmem) (K02.down (Nat.le_refl _) |>.mono (fun _ _ h => by cases h)) (HG.out _ hmem))
      have e1 : fs[j].ab.bytes = ps[j].raw := by rw [hpsj]; rfl
      have e2 : fs[j].k = ps[j].k := by rw [hpsj]; rfl
      have e3 : fs[j].v = ps[j].v := by rw [hpsj]; rfl
      rw [e2, e3] at hAt
      rw [e1] at HRI
      clear hfd hcell hB hmem hpsj e1 e2 e3
      generalize hpj : ps[j] = p at *
      generalize fs[j].blk = fb at *
      generalize fs[j].rv = frv at *
      have HAT := Lib.hid hAt
      have HTK := Lib.hid htk
      clear hAt hpj htk
      go_wp2_with (fail)
      refine HRI.out.mono ?_
      rintro e w3 ⟨rb, ro, rcap, rfl, hby, K3, hrb⟩
      have HRB := Lib.hid hrb
      have HRX := HR2
      have HAT3 := Lib.hid (HAT.out.keep_no K3)
      have HBY := Lib.hid hby
      have hrb3 := hby.lt
      have HI3 := Lib.hid (HI2.out.keep K3 (fun h => h) (fun h => h))
      have HR3 := Lib.hid (ownsRow_keep HR2.out K3 (fun _ _ h => h))
      have K03 : Keeps (Up w.heap.size []) w w3 := K02.trans' K3.of_no
      have hsz3 : w.heap.size + 2 ≤ w3.heap.size := by have := K3.size; omega
      clear hby K3 hrb HI2 HR2 HRI HAT
      go_wp2
      refine region_segs [([0, 1, 3, 5, 6], 2), ([], 4), ([7], 8), ([], 9)] [] 10 (fun W => BytesAt W rb ro p.raw) (by kernel_rfl) (by kernel_rfl) ?_ ?_
      · exact HBY.out
      simp only [segPick, List.map_cons, List.map_nil, pick, List.filterMap_cons, List.filterMap_nil, List.getElem?_cons_succ, List.getElem?_cons_zero, List.drop_succ_cons, List.drop_zero]
      rw [wpSegs]
      intro ι F hne hF
      have c1 := fun i => run_string_of (F i) rb ro rcap p.raw p.raw.length rfl (hF i)
      clear hF
      repeat (quiet_step (fail))
      refine wpQuiet_nil ?_
      clear c1 hne F ι
      go_wp2_with (fail)
      have hw3 : w3.drew = w3.drewN 1 := rfl
      refine (key_any (w.heap.size + 1) w.heap.size lb n cap m j fb frv p.k p.v (w3.drewN 1) (HAT3.out.drewN _) hj (by omega)).mono ?_
      rintro e w4 ⟨rfl, q4, rfl⟩
      rw [World.drewN_drewN]
      go_wp2
      refine EffPost.intro (HBY.out.keep ((Keeps.refl No w3).drewN _) (fun h => h)) ?_
      rw [wpSegs]
      intro ι F hne hF
      clear hF
      repeat (quiet_step (fail))
      refine wpQuiet_nil ?_
      clear hne F ι
      go_wp2_with (fail)
      refine (value_any (w.heap.size + 1) w.heap.size lb n cap m j fb frv p.k p.v (w3.drewN (1 + q4)) (HAT3.out.drewN _) hj (by omega)).mono ?_
      rintro e w5 ⟨rfl, q5, rfl⟩
      rw [World.drewN_drewN]
      go_wp2
      refine EffPost.intro (HBY.out.keep ((Keeps.refl No w3).drewN _) (fun h => h)) ?_
      rw [wpSegs]
      intro ι F hne hF
      clear hF
      repeat (quiet_step (fail))
      refine wpQuiet_nil ?_
      clear hne F ι
      generalize hw5 : w3.drewN (1 + q4 + q5) = w5
      have k5 : Keeps No w3 w5 := by rw [← hw5]; exact (Keeps.refl No w3).drewN _
      clear hw5
      have hby5 := Lib.hid (HBY.out.keep k5 (fun h => h))
      have hrow5 := HR3.out.kept (row := none) ⟨k5.os, k5.tape, k5.output, k5.size, fun k hk _ => k5.block k hk (fun h => h)⟩ (by
        cases Value.ownBlock _ with
        | none => exact .inl rfl
        | some b => exact .inr (fun h => by cases h))
      have hHI5 := Lib.hid (HI3.out.keep k5 (fun h => h) (fun h => h))
      have HROW5 := Lib.hid hrow5
      clear hrow5 HR3 HI3
      go_wp2
      have kA := ((Keeps.refl No w5).alloc (.cells #[str p.k, str p.v, str p.raw] 38))
      refine EffPost.intro (hby5.out.keep kA (fun h => h)) ?_
      rw [wpSegs]
      intro ι F hne hF
      clear hF
      repeat (quiet_step (fail))
      refine wpQuiet_nil ?_
      clear hne F ι
      obtain ⟨i0, hi, hz0, hz1, hz2⟩ := info_parts info_hfield
      have hc1 : ∀ i u, (hfs [p])[i]? = some u → (w5.alloc (.cells #[str p.k, str p.v, str p.raw] 38)).cell? ((⟨w5.heap.size, 0, none⟩ : Addr).add i) = some u := fun i u hi => by
        have hb := Blk.new w5 [str p.k, str p.v, str p.raw] 38
        have hadd : (⟨w5.heap.size, 0, none⟩ : Addr).add i = ⟨w5.heap.size, i, none⟩ := by unfold Addr.add; split <;> simp_all
        rw [hadd]
        exact (hb.cell i).trans hi
      have hc2 : ∀ u ∈ hfs [p], u.oneCell' = true := fun u hu => by
        simp [hfs] at hu
        rcases hu with rfl | rfl | rfl <;> rfl
      have hb5 : w.heap.size + 2 ≤ w5.heap.size := by have := k5.size; omega
      have HC1 := Lib.hid hc1
      clear hc1
      change wpList _ _ _ (_ :: []) _ _
      go_wp2_with (at_builtin; refine wpList_append_own _ rfl (.tmp 15) (.tmp 23) 24 rfl (w.heap.size + 2) 38 i0 (.agg #[.string ⟨#[]⟩, .string ⟨#[]⟩, .string ⟨#[]⟩]) 3 48 Tryz.underlying24 hi hz0 hz1 hz2 rfl (by decide) _ j (hfs (ps.take j)) rfl (HROW5.out.alloc _) ⟨w5.heap.size, 0, none⟩ 1 1 (hfs [p]) rfl (by rw [hfs_length]; rfl) HC1.out hc2 (by unfold maxLen; omega) (by omega) (by simp; omega) ?_; intro v' W hrow' hgr _)
      have kW : Keeps (Up w.heap.size []) w3 W := ((k5.of_no (T := Up w.heap.size [])).trans' (kA.of_no)).grown hgr (fun k hk => .inl (.inr (by have := (HROW5.out.lt k hk).1; omega)))
      have hag : ∀ k, k < w.heap.size + 2 → W.heap[k]? = w5.heap[k]? := fun k hk => by
        rw [hgr.block k (by simp; omega) (fun h => by have := (HROW5.out.lt k h.symm).1; omega)]
        exact kA.block k (by omega) (fun h => h)
      have hbyW : BytesAt W rb ro p.raw := by
        obtain ⟨cs, t, f, h1, h2⟩ := hby5.out
        have hlt := (Array.getElem?_eq_some_iff.1 h1).1
        refine ⟨cs, t, f, ?_, h2⟩
        rw [hgr.block rb (by simp; omega) (fun h => by have h5 := HRX.out.lt rb h.symm; have h6 := HRB.out; omega)]
        exact (kA.block rb hlt (fun h => h)).trans h1
      have hItW : It W (w.heap.size + 1) w.heap.size lb n cap m j := ⟨(hag _ (by omega)).trans hHI5.out.B, (hag _ (by omega)).trans hHI5.out.H⟩
      rw [← hfs_append, ← HTK.out] at hrow'
      have HRW := Lib.hid hrow'
      have HITW := Lib.hid hItW
      clear hrow' hItW hag
      go_wp2
      refine EffPost.intro hbyW ?_
      rw [wpSegs]
      intro ι F hne hF
      clear hF
      repeat (quiet_step (fail))
      refine wpQuiet_nil ?_
      clear hne F ι
      change wpList _ _ _ (_ :: []) _ _
      go_wp2
      go_roundg (gk - 1)
      case measure => have := HJN.out; omega
      case rel =>
        have hw := kW.size
        refine ⟨j + 1, by have := HJN.out; omega, HRW.out, ?_, K03.trans' kW, by omega⟩
        have : (((j + 1 : Nat) : Int) - 1) = (j : Int) := by omega
        rw [this]
        exact HITW.out
    · have e1 : decide ((j : Int) < (n : Int)) = false := decide_eq_false (by omega)
      rw [e1]
      clear e1
      have hjn : j = n := by omega
      go_wp2
      go_ret
      refine ⟨_, rfl, ?_, K02.down (Nat.le_refl _) |>.mono (fun _ _ h => by cases h)⟩
      have h2 := HR2.out
      rw [hjn, HL.out, List.take_length] at h2
      obtain ⟨h3, h4⟩ := h2
      refine ⟨h3, ?_⟩
      rcases h4 with h4 | ⟨g, c, cur, h5, h6, h7⟩
      · exact .inl h4
      · exact .inr ⟨g, c, cur, h5, by omega, h7⟩
end Go.Proofs.YtjbbapodcngnaaaGreatDoor
namespace Go.Proofs.YtjbbapodcngnaaaGreatDoor
open Go.RowKit Hdr

/-- What played leaves. -/
def PlPost (l' : List Ab) (w : World) (e : Ending) (w' : World) : Prop :=
  ∃ v, e = .returned (.tuple #[v, str (wrb l'), .bool true, .bool true]) ∧ w'.ownsRow w.heap.size 38 3 v l'.length (hfs (l'.map Ab.pf)) ∧ Keeps No w w'

/-- Midway: the header as it stands, and the copy. -/
structure Midw (w wr : World) (hb kb lb2 cap2 : Nat) (m2 : Option Nat) (fs0 : List Fd) (own : List Nat) (fs : List Fd) : Prop where
  H : HMut wr own hb fs
  O : ∀ x ∈ own, w.heap.size ≤ x
  K : Keeps No w wr
  C : HRd wr lb2 cap2 fs0
  F : ∀ f ∈ fs0, FdP wr own f
  L : lb2 ∉ own
  B : Blk wr kb [.slice (some ⟨lb2, 0, none⟩) fs0.length cap2, .map m2] 74
  N : kb ∉ own
theorem Midw.step {w wr w2 : World} {hb kb lb2 cap2 : Nat} {m2 : Option Nat} {fs0 fs fs' : List Fd} {own : List Nat} (h : Midw w wr hb kb lb2 cap2 m2 fs0 own fs) (hs : MuTo own hb wr w2 fs') : ∃ own', Midw w w2 hb kb lb2 cap2 m2 fs0 own' fs' := by
  obtain ⟨own', h1, k, ho⟩ := hs
  have hl : ∀ x, x < wr.heap.size → x ∉ own → x ∉ own' := fun x hx hn hc => by
    rcases ho x hc with h | h
    · exact hn h
    · omega
  have hsz := h.K.size
  refine ⟨own', h1, fun x hx => ?_, h.K.trans k (fun i hi hc => by have := h.O i hc; omega), h.C.keep k h.L h.F, fun f hf => (h.F f hf).step k (fun _ _ h => h) ho, hl _ h.C.L.ptrs.lt h.L, h.B.keep k h.N, hl _ h.B.lt h.N⟩
  rcases ho x hx with h2 | h2
  · exact h.O x h2
  · omega
theorem Midw.keep_no {w wr w2 : World} {hb kb lb2 cap2 : Nat} {m2 : Option Nat} {fs0 fs : List Fd} {own : List Nat} (h : Midw w wr hb kb lb2 cap2 m2 fs0 own fs) (k : Keeps No wr w2) : Midw w w2 hb kb lb2 cap2 m2 fs0 own fs :=
  ⟨h.H.keep_no k, h.O, h.K.trans' k, h.C.keep_no k, fun f hf => (h.F f hf).step k (fun _ _ h => h.elim) (fun _ h => .inl h), h.L, h.B.keep_no k, h.N⟩

theorem wrb_le {l : List Ab} (h : ∀ x ∈ l, x.good) (hn : l.length ≤ 10000) : (wrb l).length ≤ 100000000 := by
  unfold wrb
  have : (l.flatMap Ab.bytes).length ≤ l.length * 9000 := by
    clear hn
    induction l with
    | nil => simp
    | cons x l ih =>
      have h1 := (h x (List.mem_cons_self ..)).1.2
      have h2 := ih (fun y hy => h y (List.mem_cons_of_mem _ hy))
      simp only [List.flatMap_cons, List.length_append, List.length_cons]
      omega
  simp only [List.length_append, List.length_cons, List.length_nil]
  omega

set_option maxRecDepth 100000 in
set_option maxHeartbeats 4000000 in
theorem played_any (l : List UInt8) (ps : List PF) (c : List UInt8) (ss : List St) (l' : List Ab) (sv : Value) (ea : Addr) (w : World) (hs : Short l) (hlen : l.length ≤ 2000) {N : Nat} (L : Laid N ea w) (hN : N ≤ w.heap.size) (hr : rhd l = some (ps, c)) (hst : StepsAt w sv ss) (hch : Chain ss (ps.map abP) l') (hsn : ss.length ≤ 20) :
    Calls Tryz.prog 32 #[str l, sv] w (PlPost l' w) := by
  have hgood : ∀ x ∈ ps.map abP, x.good := fun x hx => by
    obtain ⟨p, hp, rfl⟩ := List.mem_map.1 hx
    exact read_good (rhd_read hr p hp) hlen
  have hpl : ps.length ≤ 2000 := by have := rhd_len hr; omega
  obtain ⟨hgood', hlen'⟩ := chain_good hch hgood
  rw [List.length_map] at hlen'
  have H := headed_any l ea w hs (by omega) L hN
  rw [hr] at H
  have HH := Lib.hid H
  have HG := Lib.hid hgood
  have HG' := Lib.hid hgood'
  have HC := Lib.hid hch
  have hst2 := hst
  obtain ⟨sa, scap, rfl, _⟩ := hst2
  have HST := Lib.hid hst
  clear hgood hgood' hch H hst hr L hs
  go_enter Tryz.func32, Tryz.ntmps32
  go_wp2_with (fail)
  refine HH.out.mono ?_
  rintro e w1 ⟨K, hv, fs, rfl, hh, ht⟩
  have hab := tells_ab ht
  have hfl : fs.length ≤ 2000 := by rw [ht.length]; exact hpl
  obtain ⟨lb, cap, m, rfl, h1, h2, h3, h4, h5⟩ := hh
  have hsz1 := K.size
  have kA : Keeps No w1 (w1.alloc (.cells #[.slice (some ⟨lb, 0, none⟩) fs.length cap, .map m] 74)) := (Keeps.refl No w1).alloc _
  have hB : Blk (w1.alloc (.cells #[.slice (some ⟨lb, 0, none⟩) fs.length cap, .map m] 74)) w1.heap.size [.slice (some ⟨lb, 0, none⟩) fs.length cap, .map m] 74 := Blk.new w1 _ _
  have hF2 : Fds (w1.alloc (.cells #[.slice (some ⟨lb, 0, none⟩) fs.length cap, .map m] 74)) w.heap.size (w1.alloc (.cells #[.slice (some ⟨lb, 0, none⟩) fs.length cap, .map m] 74)).heap.size fs := (h5.keep kA (fun _ h => h.elim)).mono kA.size
  obtain ⟨own0, hM0, hO0⟩ := mut_of hB h2 (h3.keep kA (fun h => h)) (h4.to kA (fun _ h => h.elim) (Nat.le_refl _)) hF2 hsz1 h1
  have hRd : HRd (w1.alloc (.cells #[.slice (some ⟨lb, 0, none⟩) fs.length cap, .map m] 74)) lb cap fs := by
    obtain ⟨lb', cap', m', M⟩ := hM0
    exact ⟨h3.keep kA (fun h => h), fun f hf => (M.F f hf).bare⟩
  have hfine : ∀ f ∈ fs, f.ab.fine := fun f hf => (HG.out f.ab (by rw [← hab]; exact List.mem_map_of_mem hf)).1.1
  have hwrb : (wrb (fs.map Fd.ab)).length ≤ 100000000 := wrb_le (by rw [hab]; exact HG.out) (by rw [List.length_map]; omega)
  have HP2 := Lib.hid (h3.keep kA (fun h => h))
  have HF2 := Lib.hid hF2
  have HB2 := Lib.hid hB
  have HM0 := Lib.hid hM0
  have HO0 := Lib.hid hO0
  have HRD := Lib.hid hRd
  have HFI := Lib.hid hfine
  have HWR := Lib.hid hwrb
  have HAB := Lib.hid hab
  have HK := Lib.hid (K.trans' kA)
  have HLE := Lib.hid hlen'
  clear h1 h2 h3 h4 h5 kA hB hF2 hM0 hO0 hRd hfine hwrb hab ht K HH hlen' hpl
  go_wp2_with (fail)
  refine (written_any lb cap m fs _ HRD.out HFI.out (by omega) HWR.out).mono ?_
  rintro e w3 ⟨rfl, K3⟩
  have HB3 := Lib.hid (HB2.out.keep_no K3)
  have HK3 := Lib.hid (HK.out.trans' K3)
  have HC3 := Lib.hid (Copy_any w1.heap.size lb cap w.heap.size m fs w3 HB3.out (HP2.out.keep K3 (fun h => h)) ((HF2.out.keep K3 (fun _ h => h.elim)).mono K3.size) (by omega))
  have HM3 := Lib.hid (HM0.out.keep_no K3)
  have HRD3 := Lib.hid (HRD.out.keep_no K3)
  clear K3 HB2 HP2 HF2 HM0 HRD HK
  go_wp2_with (fail)
  refine HC3.out.mono ?_
  rintro e w4 ⟨lb2, cap2, m2, rfl, hge, hp2, hm2, K4⟩
  have k5 : Keeps No w3 (w4.alloc (.cells #[.slice (some ⟨lb2, 0, none⟩) fs.length cap2, .map m2] 74)) := K4.alloc _
  have hmid : Midw w (w4.alloc (.cells #[.slice (some ⟨lb2, 0, none⟩) fs.length cap2, .map m2] 74)) w1.heap.size w4.heap.size lb2 cap2 m2 fs own0 fs := by
    have hsz4 := K4.size
    obtain ⟨lb', cap', m', M⟩ := HM3.out
    have hlt : ∀ x ∈ own0, x < w3.heap.size := M.lt
    exact ⟨HM3.out.keep_no k5, HO0.out, HK3.out.trans' k5, ⟨hp2.keep ((Keeps.refl No w4).alloc _) (fun h => h), (HRD3.out.keep_no k5).F⟩, fun f hf => (M.F f hf).step k5 (fun _ _ h => h.elim) (fun _ h => .inl h), fun h => by have := hlt _ h; omega, Blk.new w4 _ _, fun h => by have := hlt _ h; omega⟩
  have HMID := Lib.hid hmid
  clear hge hp2 hm2 K4 k5 hmid HC3 HM3 HRD3 HK3 HB3
  go_wp2
  go_loopg [34] ss.length (fun q s34 wr => ∃ (i : Nat) (own : List Nat) (fs' : List Fd), s34 = .int .i64 (i : Int) ∧ i + q = ss.length ∧ Midw w wr w1.heap.size w4.heap.size lb2 cap2 m2 fs own fs' ∧ Chain (ss.drop i) (fs'.map Fd.ab) l' ∧ fs'.length ≤ 2000 + i ∧ ∀ x ∈ fs'.map Fd.ab, x.good)
  case atStart => exact ⟨0, own0, fs, rfl, by omega, HMID.out, by rw [HAB.out]; exact HC.out, by omega, by rw [HAB.out]; exact HG.out⟩
  case round =>
    obtain ⟨i, own, fs', rfl, hin, hmid, hch, hfl', hgd⟩ := hrel
    have HIN := Lib.hid hin
    have HMD := Lib.hid hmid
    have HGD := Lib.hid hgd
    have hil : i ≤ ss.length := by omega
    have HCI := Lib.hid hch
    clear hin hmid hch hgd
    by_cases hi : i < ss.length
    · have hii : (i : Int) < (ss.length : Int) := by omega
      obtain ⟨sb, so, rfl, _, hscap, c0, c1, c2, c3⟩ := (HST.out.keep HMD.out.K).cells hi
      have hch2 := HCI.out
      rw [List.drop_eq_getElem_cons hi] at hch2
      generalize ss[i] = s at *
      obtain ⟨op, key, val, n⟩ := s
      obtain ⟨l1, hok, hgs, hch3⟩ := hch2
      simp only at c0 c1 c2 c3
      have hkA : Keeps No wr (wr.alloc (.cells #[.int .i64 op, str key, str val, .int .i64 n] 56)) := (Keeps.refl No wr).alloc _
      have HSP := Lib.hid (stepped_any w1.heap.size ⟨op, key, val, n⟩ fs' l1 own _ (HMD.out.H.keep_no hkA) hok (fun h => Nat.le_trans (hgs.2.1 h) (by decide)) (Nat.le_trans hgs.1 (by decide)) (by omega))
      have HMA := Lib.hid (HMD.out.keep_no hkA)
      have hsg := step_good hok hgs HGD.out
      have HSG := Lib.hid hsg
      have HC3 := Lib.hid hch3
      unfold stepV at HSP
      clear hch3 hgs hok hkA hsg
      go_wp2_with (fail)
      refine HSP.out.mono ?_
      rintro e w6 ⟨rfl, fs2, hmap, hmu⟩
      have hmd2 := HMA.out.step hmu
      obtain ⟨own2, hmd2⟩ := hmd2
      have HMD2 := Lib.hid hmd2
      have HMAP := Lib.hid hmap
      clear hmd2 hmap hmu c0 c1 c2 c3
      go_wp2
      go_roundg (gk - 1)
      case measure => have := HIN.out; omega
      case rel =>
        have h1 := HSG.out
        rw [← HMAP.out, List.length_map, List.length_map] at h1
        exact ⟨i + 1, own2, fs2, by simp, by have := HIN.out; omega, HMD2.out, by rw [HMAP.out]; exact HC3.out, by omega, h1.1⟩
    · have hin : i = ss.length := by omega
      have e1 : decide ((i : Int) < (ss.length : Int)) = false := decide_eq_false (by omega)
      have hfin : fs'.map Fd.ab = l' := by
        have := HCI.out
        rw [hin, List.drop_length] at this
        exact this
      obtain ⟨lb3, cap3, m3, M⟩ := HMD.out.H
      have hfl3 : fs'.length ≤ 2020 := by omega
      have hfine3 : ∀ f ∈ fs', f.ab.fine := fun f hf => (HGD.out f.ab (List.mem_map_of_mem hf)).1.1
      have hwrb3 : (wrb (fs'.map Fd.ab)).length ≤ 100000000 := wrb_le HGD.out (by rw [List.length_map]; omega)
      have HRD3 := Lib.hid (HRd.of_mu M)
      have HB3 := Lib.hid M.H
      have c0 := M.H.cell 0
      have c1 := M.H.cell 1
      have HFI3 := Lib.hid hfine3
      have HWR3 := Lib.hid hwrb3
      have HFIN := Lib.hid hfin
      clear hin hfin M hfine3 hwrb3
      go_wp2_with (fail)
      refine (written_any lb3 cap3 m3 fs' _ HRD3.out HFI3.out (by omega) HWR3.out).mono ?_
      rintro e w7 ⟨rfl, K7⟩
      have HMD7 := Lib.hid (HMD.out.keep_no K7)
      have HRD7 := Lib.hid (HRD3.out.keep_no K7)
      have HB7 := Lib.hid (HB3.out.keep_no K7)
      have d0 := HMD7.out.B.cell 0
      have d1 := HMD7.out.B.cell 1
      clear c0 c1 K7 HRD3 HB3
      go_wp2_with (fail)
      refine (written_any lb2 cap2 m2 fs _ HMD7.out.C HFI.out (by omega) HWR.out).mono ?_
      rintro e w8 ⟨rfl, K8⟩
      have HRD8 := Lib.hid (HRD7.out.keep_no K8)
      have HB8 := Lib.hid (HB7.out.keep_no K8)
      have HK8 := Lib.hid (HMD7.out.K.trans' K8)
      have c0 := HB8.out.cell 0
      have c1 := HB8.out.cell 1
      have hself : (wrb (fs.map Fd.ab) == wrb (fs.map Fd.ab)) = true := by simp
      clear d0 d1 K8
      go_wp2_with (fail)
      refine (fieldsOfMu_any lb3 cap3 m3 fs' _ rfl _ HRD8.out HFI3.out (by omega)).mono ?_
      rintro e w9 ⟨v9, rfl, hrow, K9⟩
      have HROW := Lib.hid hrow
      have HK9 := Lib.hid (HK8.out.trans' K9)
      have hsz8 := HK8.out.size
      clear hrow K9 c0 c1
      go_wp2
      (try simp only [Exit.inBlock, Exit.then])
      refine bodyPost_ret (results_tmp4 rfl _ _ _) rfl ?_
      refine ⟨v9, by rw [← HFIN.out]; rfl, ?_, HK9.out⟩
      have h1 := ownsRow_mono HROW.out hsz8
      rw [List.length_map] at h1
      rw [← HFIN.out, List.length_map, List.map_map]
      exact h1
end Go.Proofs.YtjbbapodcngnaaaGreatDoor
namespace Go.Proofs.YtjbbapodcngnaaaGreatDoor
open Go.RowKit Hdr

/-- Where the script's results lie. -/
def ClP (b base : Nat) (l' : List Ab) (w w' : World) : Prop :=
  ∃ v, Blk w' (b + 2) [v] 24 ∧ Blk w' (b + 3) [str (wrb l')] 9 ∧ Blk w' (b + 4) [.bool true] 4 ∧ Blk w' (b + 5) [.bool true] 4 ∧
    w'.ownsRow base 38 3 v l'.length (hfs (l'.map Ab.pf)) ∧ Keeps (In [b + 2, b + 3, b + 4, b + 5]) w w'
/-- What the closure captures. -/
def caps (b : Nat) : Array Value := #[.pointer (some ⟨b, 0, none⟩), .pointer (some ⟨b + 1, 0, none⟩), .pointer (some ⟨b + 2, 0, none⟩), .pointer (some ⟨b + 3, 0, none⟩), .pointer (some ⟨b + 4, 0, none⟩), .pointer (some ⟨b + 5, 0, none⟩)]
structure CapsAt (b : Nat) (l : List UInt8) (sv : Value) (w : World) : Prop where
  B0 : Blk w b [str l] 9
  B1 : Blk w (b + 1) [sv] 22
  B2 : ∃ v, Blk w (b + 2) [v] 24
  B3 : ∃ v, Blk w (b + 3) [v] 9
  B4 : ∃ v, Blk w (b + 4) [v] 4
  B5 : ∃ v, Blk w (b + 5) [v] 4
theorem CapsAt.keep_no {b : Nat} {l : List UInt8} {sv : Value} {w w' : World} (h : CapsAt b l sv w) (k : Keeps No w w') : CapsAt b l sv w' := by
  obtain ⟨h0, h1, ⟨v2, h2⟩, ⟨v3, h3⟩, ⟨v4, h4⟩, ⟨v5, h5⟩⟩ := h
  exact ⟨h0.keep_no k, h1.keep_no k, ⟨v2, h2.keep_no k⟩, ⟨v3, h3.keep_no k⟩, ⟨v4, h4.keep_no k⟩, ⟨v5, h5.keep_no k⟩⟩

theorem set4 {b base : Nat} {l' : List Ab} {w : World} {v v2 v3 v4 v5 : Value} (h2 : Blk w (b + 2) [v2] 24) (h3 : Blk w (b + 3) [v3] 9) (h4 : Blk w (b + 4) [v4] 4) (h5 : Blk w (b + 5) [v5] 4)
    (hrow : w.ownsRow base 38 3 v l'.length (hfs (l'.map Ab.pf))) (hb : b + 6 ≤ base) :
    ClP b base l' w ((((w.setCell ⟨b + 2, 0, none⟩ v).setCell ⟨b + 3, 0, none⟩ (str (wrb l'))).setCell ⟨b + 4, 0, none⟩ (.bool true)).setCell ⟨b + 5, 0, none⟩ (.bool true)) := by
  have ne : ∀ i j : Nat, i ≠ j → b + i ≠ b + j := fun i j h e => h (by omega)
  have k : Keeps (In [b + 2, b + 3, b + 4, b + 5]) w ((((w.setCell ⟨b + 2, 0, none⟩ v).setCell ⟨b + 3, 0, none⟩ (str (wrb l'))).setCell ⟨b + 4, 0, none⟩ (.bool true)).setCell ⟨b + 5, 0, none⟩ (.bool true)) :=
    ((((Keeps.refl _ w).setCell (.inl (by simp [In])) _).setCell (.inl (by simp [In])) _).setCell (.inl (by simp [In])) _).setCell (.inl (by simp [In])) _
  refine ⟨v, ?_, ?_, ?_, ?_, ownsRow_keep hrow k (fun g hg hc => by have := (hrow.lt g hg).1; simp [In] at hc; omega), k⟩
  · exact (((h2.set 0 v).set_other (ne 3 2 (by decide)) _).set_other (ne 4 2 (by decide)) _).set_other (ne 5 2 (by decide)) _
  · exact (((h3.set_other (ne 2 3 (by decide)) _).set 0 _).set_other (ne 4 3 (by decide)) _).set_other (ne 5 3 (by decide)) _
  · exact (((h4.set_other (ne 2 4 (by decide)) _).set_other (ne 3 4 (by decide)) _).set 0 _).set_other (ne 5 4 (by decide)) _
  · exact (((h5.set_other (ne 2 5 (by decide)) _).set_other (ne 3 5 (by decide)) _).set_other (ne 4 5 (by decide)) _).set 0 _

theorem ClP.before {b base base' : Nat} {l' : List Ab} {w w1 w2 : World} (h : ClP b base l' w1 w2) (k : Keeps No w w1) (hb : base' ≤ base) : ClP b base' l' w w2 := by
  obtain ⟨v, h2, h3, h4, h5, hr, hk⟩ := h
  exact ⟨v, h2, h3, h4, h5, ownsRow_mono hr hb, k.of_no.trans' hk⟩

theorem ClP.base {b base base' : Nat} {l' : List Ab} {w w2 : World} (h : ClP b base l' w w2) (hb : base' ≤ base) : ClP b base' l' w w2 := h.before (Keeps.refl No w) hb
theorem ClP.set_x {b base x : Nat} {l' : List Ab} {w w' : World} {v : Value} (h : ClP b base l' w w') (h1 : b + 6 ≤ x) (h2 : x < base) (h3 : w.heap.size ≤ x) : ClP b base l' w (w'.setCell ⟨x, 0, none⟩ v) := by
  obtain ⟨v', h2', h3', h4, h5, hr, hk⟩ := h
  have k : Keeps (In [x]) w' (w'.setCell ⟨x, 0, none⟩ v) := (Keeps.refl _ w').setCell (.inl (by simp [In])) _
  exact ⟨v', h2'.set_other (p := ⟨x, 0, none⟩) (by show x ≠ b + 2; omega) _, h3'.set_other (p := ⟨x, 0, none⟩) (by show x ≠ b + 3; omega) _, h4.set_other (p := ⟨x, 0, none⟩) (by show x ≠ b + 4; omega) _, h5.set_other (p := ⟨x, 0, none⟩) (by show x ≠ b + 5; omega) _,
    ownsRow_keep hr k (fun g hg hc => by have := (hr.lt g hg).1; simp [In] at hc; omega), hk.setCell (.inr h3) _⟩

set_option maxRecDepth 100000 in
set_option maxHeartbeats 1000000 in
theorem closure_any (b : Nat) (l : List UInt8) (sv : Value) (l' : List Ab) (w : World) (h : CapsAt b l sv w) (hp : Calls Tryz.prog 32 #[str l, sv] w (PlPost l' w)) :
    Calls Tryz.prog 31 (caps b) w fun e w' => e = .returned (.tuple #[]) ∧ ClP b w.heap.size l' w w' := by
  have HC := Lib.hid h
  have HP := Lib.hid hp
  have c0 := h.B0.cell 0
  have c1 := h.B1.cell 0
  have hb5 : b + 6 ≤ w.heap.size := by
    obtain ⟨v, h5⟩ := h.B5
    have := h5.lt
    omega
  clear h hp
  unfold caps
  go_enter Tryz.func31, Tryz.ntmps31
  go_wp2_with (fail)
  refine HP.out.mono ?_
  rintro e w1 ⟨v, rfl, hrow, K⟩
  obtain ⟨oa, oc, rfl⟩ := ownsRow_shape hrow
  obtain ⟨_, _, ⟨v2, h2⟩, ⟨v3, h3⟩, ⟨v4, h4⟩, ⟨v5, h5⟩⟩ := HC.out.keep_no K
  have hS := (set4 h2 h3 h4 h5 hrow hb5).before K (Nat.le_refl _)
  have d2 : w1.cell? ⟨b + 2, 0, none⟩ = some v2 := h2.cell 0
  have d3 : w1.cell? ⟨b + 3, 0, none⟩ = some v3 := h3.cell 0
  have d4 : w1.cell? ⟨b + 4, 0, none⟩ = some v4 := h4.cell 0
  have d5 : w1.cell? ⟨b + 5, 0, none⟩ = some v5 := h5.cell 0
  have f2 := h2.frozen 0
  have f3 := h3.frozen 0
  have f4 := h4.frozen 0
  have f5 := h5.frozen 0
  have HS := Lib.hid hS
  clear hS h2 h3 h4 h5 hrow K c0 c1
  go_wp2
  go_end0
  exact ⟨rfl, HS.out⟩

theorem catch_idle (p : Addr) (w : World) :
    CallsD Tryz.prog 51 #[.pointer (some p)] .returning w fun e u' w' => e = .returned (.tuple #[]) ∧ u' = .returning ∧ w' = w := by
  refine callsD_of_wpS Tryz.func51 rfl fun c₀ cs hu => ?_
  apply wpS_seq
  apply wpS_region
  simp [wpOpsS, go_sem, recoverD, hu, Tryz.ntmps51, Exit.thenS]
  refine wpS_cond (t := false) (by simp [Act.eval, Array.replicate]) ?_
  simp only [Bool.false_eq_true, if_false]
  refine wpS_of_wp (wp_skip ?_)
  cases c₀
  simp_all [bodyPostS, results, Tryz.results51]

set_option maxRecDepth 100000 in
set_option maxHeartbeats 1000000 in
theorem tried_any (b : Nat) (l' : List Ab) (w : World) (hb : b + 6 ≤ w.heap.size) (hc : ∀ w1, Keeps No w w1 → Calls Tryz.prog 31 (caps b) w1 fun e w' => e = .returned (.tuple #[]) ∧ ClP b w1.heap.size l' w1 w') :
    Calls Tryz.prog 30 #[.func (.func 31) #[] (caps b)] w fun e w' => e = .returned (.bool true) ∧ ClP b w.heap.size l' w w' := by
  have hmf : ∀ (fn : Fn) (first cap : Array Value) (w : World), (Instr.makeFunc fn first cap).run Tryz.prog w = .ok (.func fn first cap) w := fun _ _ _ _ => rfl
  have HC := Lib.hid hc
  clear hc
  go_enter_defers Tryz.func30, Tryz.ntmps30
  go_wp2_with (fail)
  have kA : Keeps No w (w.alloc (.cells #[.bool false] 4)) := (Keeps.refl No w).alloc _
  refine (HC.out _ kA).mono ?_
  rintro e w2 ⟨rfl, hp⟩
  have hq := (hp.before kA (Nat.le_refl _)).set_x (x := w.heap.size) (v := .bool true) hb (by simp) (Nat.le_refl _)
  have hbx : Blk w2 w.heap.size [.bool false] 4 := by
    obtain ⟨v, _, _, _, _, _, k⟩ := hp
    exact (Blk.new w [.bool false] 4).keep k (fun h => by simp [In] at h; omega)
  have HQ := Lib.hid hq
  have HBX := Lib.hid hbx
  have f0 := hbx.frozen 0
  have c0 := hbx.cell 0
  clear hq hbx hp kA
  go_wp2
  refine leaves_cons (f := 51) (args := #[.pointer (some ⟨w.heap.size, 0, none⟩)]) (by simp) (by simp [go_sem]) ?_
  refine (catch_idle ⟨w.heap.size, 0, none⟩ _).mono ?_
  rintro e u' w'' ⟨rfl, rfl, rfl⟩
  have c1 : (w2.setCell ⟨w.heap.size, 0, none⟩ (.bool true)).cell? ⟨w.heap.size, 0, none⟩ = some (.bool true) := (HBX.out.set 0 (.bool true)).cell 0
  have hq := HQ.out.base (base' := w.heap.size) (by simp)
  simp [Leaves, settle, results, Tryz.results30, go_sem, c1]
  exact hq

/-- The six new variables. -/
def six (w : World) (l : List UInt8) (sv : Value) : World :=
  (((((w.alloc (.cells #[str l] 9)).alloc (.cells #[sv] 22)).alloc (.cells #[.slice none 0 0] 24)).alloc (.cells #[.string ⟨#[]⟩] 9)).alloc (.cells #[.bool false] 4)).alloc (.cells #[.bool false] 4)
theorem Blk.alloc_at {w : World} {b : Nat} (hb : b = w.heap.size) (cs : List Value) (t : TypeId) : Blk (w.alloc (.cells cs.toArray t)) b cs t := by
  subst hb
  exact Blk.new w cs t
theorem Blk.alloc_eq {w w' : World} {b : Nat} {cs : List Value} {t : TypeId} {o : Obj} (h : Blk w b cs t) (e : w.alloc o = w') : Blk w' b cs t := by
  rw [← e]
  exact h.alloc o
theorem six_caps (w : World) (l : List UInt8) (sv : Value) : CapsAt w.heap.size l sv (six w l sv) := by
  unfold six
  generalize e1 : w.alloc (.cells #[str l] 9) = w1
  have s1 : w1.heap.size = w.heap.size + 1 := by rw [← e1]; simp
  have b0 : Blk w1 w.heap.size [str l] 9 := by rw [← e1]; exact Blk.alloc_at rfl [str l] _
  generalize e2 : w1.alloc (.cells #[sv] 22) = w2
  have s2 : w2.heap.size = w.heap.size + 2 := by rw [← e2]; simp; exact s1
  have b1 : Blk w2 (w.heap.size + 1) [sv] 22 := by rw [← e2]; exact Blk.alloc_at s1.symm [sv] _
  generalize e3 : w2.alloc (.cells #[.slice none 0 0] 24) = w3
  have s3 : w3.heap.size = w.heap.size + 3 := by rw [← e3]; simp; exact s2
  have b2 : Blk w3 (w.heap.size + 2) [.slice none 0 0] 24 := by rw [← e3]; exact Blk.alloc_at s2.symm [.slice none 0 0] _
  generalize e4 : w3.alloc (.cells #[.string ⟨#[]⟩] 9) = w4
  have s4 : w4.heap.size = w.heap.size + 4 := by rw [← e4]; simp; exact s3
  have b3 : Blk w4 (w.heap.size + 3) [.string ⟨#[]⟩] 9 := by rw [← e4]; exact Blk.alloc_at s3.symm [.string ⟨#[]⟩] _
  generalize e5 : w4.alloc (.cells #[.bool false] 4) = w5
  have s5 : w5.heap.size = w.heap.size + 5 := by rw [← e5]; simp; exact s4
  have b4 : Blk w5 (w.heap.size + 4) [.bool false] 4 := by rw [← e5]; exact Blk.alloc_at s4.symm [.bool false] _
  generalize e6 : w5.alloc (.cells #[.bool false] 4) = w6
  have s6 : w6.heap.size = w.heap.size + 6 := by rw [← e6]; simp; exact s5
  have b5 : Blk w6 (w.heap.size + 5) [.bool false] 4 := by rw [← e6]; exact Blk.alloc_at s5.symm [.bool false] _
  have b0 := b0.alloc_eq e2
  have b0 := b0.alloc_eq e3
  have b0 := b0.alloc_eq e4
  have b0 := b0.alloc_eq e5
  have b0 := b0.alloc_eq e6
  have b1 := b1.alloc_eq e3
  have b1 := b1.alloc_eq e4
  have b1 := b1.alloc_eq e5
  have b1 := b1.alloc_eq e6
  have b2 := b2.alloc_eq e4
  have b2 := b2.alloc_eq e5
  have b2 := b2.alloc_eq e6
  have b3 := b3.alloc_eq e5
  have b3 := b3.alloc_eq e6
  have b4 := b4.alloc_eq e6
  exact ⟨b0, b1, ⟨_, b2⟩, ⟨_, b3⟩, ⟨_, b4⟩, ⟨_, b5⟩⟩
theorem six_keeps (w : World) (l : List UInt8) (sv : Value) : Keeps No w (six w l sv) := ((((((Keeps.refl No w).alloc _).alloc _).alloc _).alloc _).alloc _).alloc _
theorem six_size (w : World) (l : List UInt8) (sv : Value) : (six w l sv).heap.size = w.heap.size + 6 := by simp [six]

theorem results_c3t {fn : Func} {p q r u : Tmp} {tp tq tr : TypeId} (h : fn.results = #[.cell p tp, .cell q tq, .cell r tr, .tmp u]) (tmps : Array Value) {P : Program} (w : World) (g1 g2 g3 : Nat) (x y z : Value) (hp : tmps.getD p undef = .pointer (some ⟨g1, 0, none⟩)) (hq : tmps.getD q undef = .pointer (some ⟨g2, 0, none⟩)) (hr : tmps.getD r undef = .pointer (some ⟨g3, 0, none⟩))
    (hl1 : (loadVar tp ⟨g1, 0, none⟩).run P w = .ok x w) (hl2 : (loadVar tq ⟨g2, 0, none⟩).run P w = .ok y w) (hl3 : (loadVar tr ⟨g3, 0, none⟩).run P w = .ok z w) :
    (results fn tmps).run P w = .ok (.tuple #[x, y, z, tmps.getD u undef]) w := by
  simp only [results, h]
  simp [Sem.run_bind, asAddr, Result.andThen]
  have hp' : tmps[p]?.getD undef = .pointer (some ⟨g1, 0, none⟩) := by simpa using hp
  have hq' : tmps[q]?.getD undef = .pointer (some ⟨g2, 0, none⟩) := by simpa using hq
  have hr' : tmps[r]?.getD undef = .pointer (some ⟨g3, 0, none⟩) := by simpa using hr
  rw [hp', hq', hr']
  simp [hl1, hl2, hl3]
theorem load_hfs (w : World) (g : Nat) (v : Value) (h : w.cell? ⟨g, 0, none⟩ = some v) : (loadVar 24 ⟨g, 0, none⟩).run Tryz.prog w = .ok v w := by
  simp [loadVar, isAgg, run_underlying Tryz.underlying24, h]
theorem load_str (w : World) (g : Nat) (v : Value) (h : w.cell? ⟨g, 0, none⟩ = some v) : (loadVar 9 ⟨g, 0, none⟩).run Tryz.prog w = .ok v w := by
  simp [loadVar, isAgg, run_underlying Tryz.underlying9, h]
theorem load_bool (w : World) (g : Nat) (v : Value) (h : w.cell? ⟨g, 0, none⟩ = some v) : (loadVar 4 ⟨g, 0, none⟩).run Tryz.prog w = .ok v w := by
  simp [loadVar, isAgg, run_underlying Tryz.underlying4, h]

set_option maxRecDepth 100000 in
set_option maxHeartbeats 2000000 in
theorem headerPlayed_any (l : List UInt8) (ps : List PF) (c : List UInt8) (ss : List St) (l' : List Ab) (sv : Value) (ea : Addr) (w : World) (hs : Short l) (hlen : l.length ≤ 2000) {N : Nat} (L : Laid N ea w) (hN : N ≤ w.heap.size) (hr : rhd l = some (ps, c)) (hst : StepsAt w sv ss) (hch : Chain ss (ps.map abP) l') (hsn : ss.length ≤ 20) :
    Calls Tryz.prog 10 #[str l, sv] w (PlPost l' w) := by
  have hmf : ∀ (fn : Fn) (first cap : Array Value) (w : World), (Instr.makeFunc fn first cap).run Tryz.prog w = .ok (.func fn first cap) w := fun _ _ _ _ => rfl
  have hst2 := hst
  obtain ⟨sa, scap, rfl, _⟩ := hst2
  have k6 := six_keeps w l (.slice sa ss.length scap)
  have hsz6 := six_size w l (.slice sa ss.length scap)
  have hT := tried_any w.heap.size l' (six w l (.slice sa ss.length scap)) (by omega) (fun w1 k => closure_any w.heap.size l (.slice sa ss.length scap) l' w1 ((six_caps w l _).keep_no k) (played_any l ps c ss l' _ ea w1 hs hlen (L.keep_no (k6.trans' k)) (Nat.le_trans hN (k6.trans' k).size) hr (hst.keep (k6.trans' k)) hch hsn))
  have HT := Lib.hid hT
  have HK6 := Lib.hid k6
  clear hT k6 hsz6 L hst hch hr hs
  unfold caps at HT
  go_enter Tryz.func10, Tryz.ntmps10
  go_wp2_with (fail)
  refine HT.out.mono ?_
  rintro e w7 ⟨rfl, v, h2, h3, h4, h5, hrow, k⟩
  obtain ⟨oa, oc, rfl⟩ := ownsRow_shape hrow
  have b2 : Blk w7 (w.heap.size + 1 + 1) [.slice oa l'.length oc] 24 := h2
  have b3 : Blk w7 (w.heap.size + 1 + 1 + 1) [str (wrb l')] 9 := h3
  have b4 : Blk w7 (w.heap.size + 1 + 1 + 1 + 1) [.bool true] 4 := h4
  have b5 : Blk w7 (w.heap.size + 1 + 1 + 1 + 1 + 1) [.bool true] 4 := h5
  have HR := Lib.hid hrow
  have HK := Lib.hid k
  have B2 := Lib.hid b2
  have B3 := Lib.hid b3
  have B4 := Lib.hid b4
  have B5 := Lib.hid b5
  clear h2 h3 h4 h5 hrow k b2 b3 b4 b5
  go_upto_region 3 with (fail)
  have d2 : w7.cell? ⟨w.heap.size + 1 + 1, 0, none⟩ = some (.slice oa l'.length oc) := B2.out.cell 0
  have d3 : w7.cell? ⟨w.heap.size + 1 + 1 + 1, 0, none⟩ = some (str (wrb l')) := B3.out.cell 0
  have d4 : w7.cell? ⟨w.heap.size + 1 + 1 + 1 + 1, 0, none⟩ = some (.bool true) := B4.out.cell 0
  have d5 : w7.cell? ⟨w.heap.size + 1 + 1 + 1 + 1 + 1, 0, none⟩ = some (.bool true) := B5.out.cell 0
  have f2 := B2.out.frozen 0
  have f3 := B3.out.frozen 0
  have f4 := B4.out.frozen 0
  clear HT hmf
  go_region
  go_wp2
  clear d2 d3 d4 d5 f2 f3 f4
  have kS : Keeps (In [w.heap.size + 2, w.heap.size + 3, w.heap.size + 4, w.heap.size + 5]) w7 ((((w7.setCell ⟨w.heap.size + 1 + 1, 0, none⟩ (.slice oa l'.length oc)).setCell ⟨w.heap.size + 1 + 1 + 1, 0, none⟩ (str (wrb l'))).setCell ⟨w.heap.size + 1 + 1 + 1 + 1, 0, none⟩ (.bool true)).drew) :=
    ((((Keeps.refl _ w7).setCell (.inl (by simp [In])) _).setCell (.inl (by simp [In])) _).setCell (.inl (by simp [In])) _).drew
  have C2 : Blk ((((w7.setCell ⟨w.heap.size + 1 + 1, 0, none⟩ (.slice oa l'.length oc)).setCell ⟨w.heap.size + 1 + 1 + 1, 0, none⟩ (str (wrb l'))).setCell ⟨w.heap.size + 1 + 1 + 1 + 1, 0, none⟩ (.bool true)).drew) (w.heap.size + 1 + 1) [.slice oa l'.length oc] 24 :=
    (((B2.out.set 0 (.slice oa l'.length oc)).set_other (p := ⟨w.heap.size + 1 + 1 + 1, 0, none⟩) (by show w.heap.size + 1 + 1 + 1 ≠ w.heap.size + 1 + 1; omega) _).set_other (p := ⟨w.heap.size + 1 + 1 + 1 + 1, 0, none⟩) (by show w.heap.size + 1 + 1 + 1 + 1 ≠ w.heap.size + 1 + 1; omega) _).drew
  have C3 : Blk ((((w7.setCell ⟨w.heap.size + 1 + 1, 0, none⟩ (.slice oa l'.length oc)).setCell ⟨w.heap.size + 1 + 1 + 1, 0, none⟩ (str (wrb l'))).setCell ⟨w.heap.size + 1 + 1 + 1 + 1, 0, none⟩ (.bool true)).drew) (w.heap.size + 1 + 1 + 1) [str (wrb l')] 9 :=
    (((B3.out.set_other (p := ⟨w.heap.size + 1 + 1, 0, none⟩) (by show w.heap.size + 1 + 1 ≠ w.heap.size + 1 + 1 + 1; omega) _).set 0 (str (wrb l'))).set_other (p := ⟨w.heap.size + 1 + 1 + 1 + 1, 0, none⟩) (by show w.heap.size + 1 + 1 + 1 + 1 ≠ w.heap.size + 1 + 1 + 1; omega) _).drew
  have C4 : Blk ((((w7.setCell ⟨w.heap.size + 1 + 1, 0, none⟩ (.slice oa l'.length oc)).setCell ⟨w.heap.size + 1 + 1 + 1, 0, none⟩ (str (wrb l'))).setCell ⟨w.heap.size + 1 + 1 + 1 + 1, 0, none⟩ (.bool true)).drew) (w.heap.size + 1 + 1 + 1 + 1) [.bool true] 4 :=
    (((B4.out.set_other (p := ⟨w.heap.size + 1 + 1, 0, none⟩) (by show w.heap.size + 1 + 1 ≠ w.heap.size + 1 + 1 + 1 + 1; omega) _).set_other (p := ⟨w.heap.size + 1 + 1 + 1, 0, none⟩) (by show w.heap.size + 1 + 1 + 1 ≠ w.heap.size + 1 + 1 + 1 + 1; omega) _).set 0 (.bool true)).drew
  refine bodyPost_ret (results_c3t rfl _ _ _ _ _ _ _ _ rfl rfl rfl (load_hfs _ _ _ (C2.cell 0)) (load_str _ _ _ (C3.cell 0)) (load_bool _ _ _ (C4.cell 0))) rfl ?_
  refine ⟨_, rfl, ?_, ?_⟩
  · have h1 := ownsRow_keep HR.out kS (fun g hg hc => by have := (HR.out.lt g hg).1; rw [six_size] at this; simp [In] at hc; omega)
    exact ownsRow_mono h1 (by rw [six_size]; omega)
  · exact HK6.out.trans (HK.out.trans' kS) (fun i hi hc => by simp [In] at hc; omega)
end Go.Proofs.YtjbbapodcngnaaaGreatDoor
namespace Go.Proofs.YtjbbapodcngnaaaGreatDoor
open Go.RowKit Hdr

set_option maxRecDepth 100000 in
set_option maxHeartbeats 2000000 in
theorem fnHeaderPlayed_true (l : List UInt8) (ss : List St) (sv : Value) (ea : Addr) (w : World) {N : Nat} (L : Laid N ea w) (hN : N ≤ w.heap.size) (hst : StepsAt w sv ss) :
    Calls Tryz.prog 3 #[str l, sv] w (TruePost w) := by
  have hls := str_len l
  have hst2 := hst
  obtain ⟨sa, scap, rfl, _⟩ := hst2
  by_cases h1 : 2147483647 < l.length
  · have e1 : decide (2147483647 < l.length) = true := decide_eq_true h1
    have e2 : decide ((2147483647 : Int) < (l.length : Int)) = true := decide_eq_true (by omega)
    clear L hst
    go_enter Tryz.func3, Tryz.ntmps3
    go_wp2
    go_ret
    exact ⟨rfl, Keeps.refl _ _⟩
  have e1 : decide (2147483647 < l.length) = false := decide_eq_false h1
  have e2 : decide ((2147483647 : Int) < (l.length : Int)) = false := decide_eq_false (by omega)
  have H12 := Lib.hid (fits12_any ss _ w hst)
  have HL := Lib.hid L
  have HST := Lib.hid hst
  clear L hst
  by_cases h2 : 2000 < l.length
  · have e3 : decide ((2000 : Int) < (l.length : Int)) = true := decide_eq_true (by omega)
    go_enter Tryz.func3, Tryz.ntmps3
    go_wp2_with (fail)
    refine H12.out.mono ?_
    rintro e w1 ⟨t, rfl, -, K⟩
    cases t <;> (go_wp2; go_ret; exact ⟨rfl, K⟩)
  have e3 : decide ((2000 : Int) < (l.length : Int)) = false := decide_eq_false (by omega)
  have hl2 : l.length ≤ 2000 := by omega
  by_cases h3 : 20 < ss.length
  · have e4 : decide ((20 : Int) < (ss.length : Int)) = true := decide_eq_true (by omega)
    go_enter Tryz.func3, Tryz.ntmps3
    go_wp2_with (fail)
    refine H12.out.mono ?_
    rintro e w1 ⟨t, rfl, -, K⟩
    cases t <;> (go_wp2; go_ret; exact ⟨rfl, K⟩)
  have e4 : decide ((20 : Int) < (ss.length : Int)) = false := decide_eq_false (by omega)
  have hs2 : ss.length ≤ 20 := by omega
  clear h1 h2 h3
  have hshort := short_of_len (c := l) (by omega)
  have hlaw := h9_rhd l
  have HSO := Lib.hid (fun w => specHeaderOf_any l w (by omega))
  have HSS := Lib.hid (fun w1 (k : Keeps No w w1) hz => headerSteps_any l ss _ w1 hl2 (HST.out.keep k) hs2 hz)
  have HSP := Lib.hid (fun w1 (k : Keeps No w w1) l' hz hc hg hw => specPlayed_any l ss l' _ w1 hl2 (HST.out.keep k) hs2 hz hc hg hw)
  have HIP := Lib.hid (fun w1 (k : Keeps No w w1) ps c l' hr hc => headerPlayed_any l ps c ss l' _ ea w1 hshort hl2 (HL.out.keep_no k) (Nat.le_trans hN k.size) hr (HST.out.keep k) hc hs2)
  have hread : ∀ ps c, rhd l = some (ps, c) → (∀ x ∈ ps.map abP, x.good) ∧ ps.length ≤ 2000 := fun ps c h => ⟨fun x hx => by
    obtain ⟨p, hp, rfl⟩ := List.mem_map.1 hx
    exact read_good (rhd_read h p hp) hl2, by have := rhd_len h; omega⟩
  have HRE := Lib.hid hread
  have HLAW := Lib.hid hlaw
  clear hshort hlaw hread
  generalize h9 l = r at *
  generalize rhd l = p at *
  obtain ⟨fs, taken, ok, sure⟩ := r
  go_enter Tryz.func3, Tryz.ntmps3
  go_wp2_with (fail)
  refine H12.out.mono ?_
  rintro e w1 ⟨t, rfl, ht, K1⟩
  have HT := Lib.hid ht
  have HK1 := Lib.hid K1
  clear ht K1
  cases t with
  | false =>
    go_wp2
    go_ret
    exact ⟨rfl, HK1.out⟩
  | true =>
  go_wp2_with (fail)
  refine (HSO.out _).mono ?_
  rintro e w2 ⟨v2, rfl, -, K2, hn2⟩
  have HK2 := Lib.hid (HK1.out.trans' K2)
  clear K2
  cases sure with
  | false =>
    go_wp2
    go_ret
    exact ⟨rfl, HK2.out⟩
  | true =>
  cases ok with
  | false =>
    go_wp2
    go_ret
    exact ⟨rfl, HK2.out⟩
  | true =>
  obtain ⟨hlw1, hlw2⟩ := HLAW.out rfl
  cases p with
  | none => cases hlw1 rfl
  | some pc =>
  obtain ⟨ps, c⟩ := pc
  obtain ⟨_, hfs, _⟩ := hlw2 ps c rfl
  try simp only at hfs
  subst hfs
  clear hlw1 hlw2
  obtain ⟨hgood, hpl⟩ := HRE.out fs c rfl
  have HGD := Lib.hid hgood
  have hz := HT.out (by trivial)
  have HZ := Lib.hid hz
  clear hgood hz
  go_wp2_with (fail)
  refine (HSS.out _ HK2.out HZ.out).mono ?_
  rintro e w3 ⟨t, rfl, hch, K3⟩
  have HK3 := Lib.hid (HK2.out.trans' K3)
  clear K3
  cases t with
  | false =>
    go_wp2
    go_ret
    exact ⟨rfl, HK3.out⟩
  | true =>
  obtain ⟨l', hch⟩ := hch rfl
  obtain ⟨hg', hl'⟩ := chain_good hch HGD.out
  rw [List.length_map] at hl'
  have hw' : (wrb l').length ≤ 100000000 := wrb_le hg' (by omega)
  have HSP' := Lib.hid (HSP.out w3 HK3.out l' (fun s hs => (HZ.out s hs).1) hch HGD.out hw')
  have HCH := Lib.hid hch
  clear hg' hch hw'
  go_wp2_with (fail)
  refine HSP'.out.mono ?_
  rintro e w4 ⟨v4, rfl, hrow4, K4⟩
  have HR4 := Lib.hid (Row3.of_row (l := l'.map Ab.pf) (by rw [List.length_map]; exact hrow4))
  obtain ⟨oa4, oc4, rfl⟩ := ownsRow_shape hrow4
  have HK4 := Lib.hid (HK3.out.trans' K4)
  clear hrow4 K4
  go_wp2_with (fail)
  refine (HIP.out w4 HK4.out fs c l' rfl HCH.out).mono ?_
  rintro e w5 ⟨v5, rfl, hrow5, K5⟩
  have HR5 := Lib.hid (Row3.of_row (l := l'.map Ab.pf) (by rw [List.length_map]; exact hrow5))
  obtain ⟨oa5, oc5, rfl⟩ := ownsRow_shape hrow5
  have HR45 := Lib.hid (HR4.out.keep K5 (fun _ _ h => h))
  have HK5 := Lib.hid (HK4.out.trans' K5)
  have HSAME := Lib.hid (sameHFields_any (l'.map Ab.pf) (l'.map Ab.pf) _ _ w5 HR5.out HR45.out (by rw [List.length_map]; omega) (by rw [List.length_map]; omega))
  have hself : (wrb l' == wrb l') = true := by simp
  clear hrow5 K5
  go_wp2_with (fail)
  refine HSAME.out.mono ?_
  rintro e w6 ⟨t, rfl, ht, m, rfl⟩
  have : t = true := ht.2 (by trivial)
  subst this
  go_wp2
  go_ret
  exact ⟨rfl, HK5.out.drewN _⟩
end Go.Proofs.YtjbbapodcngnaaaGreatDoor
namespace Go.Proofs.YtjbbapodcngnaaaGreatDoor.Hdr

theorem conts_sum (c : List UInt8) : (conts c).1.length + 3 * (conts c).2.length ≤ 3 * c.length := by
  induction hn : c.length using Nat.strongRecOn generalizing c with
  | _ n ih =>
    subst hn
    cases h : spHead c with
    | true =>
      have h1 := line1_lt (spHead_ne h)
      have h2 := line1_len c
      have h3 := ih _ h1 (line1 c).2 rfl
      have h4 := List.length_pos_iff.2 (line1_sp h)
      rw [conts_yes h]
      simp only [List.length_append, List.length_cons, List.length_nil]
      omega
    | false =>
      rw [conts_no h]
      simp
theorem kv_sum (c : List UInt8) : (kv c).1.length + 3 * (kv c).2.length ≤ 3 * c.length := by
  have h2 := line1_len c
  have h3 := conts_sum (line1 c).2
  by_cases h : (line1 c).1 = []
  · unfold kv
    rw [if_pos h]
    simp only [List.length_nil]
    omega
  · have h4 := List.length_pos_iff.2 h
    unfold kv
    rw [if_neg h]
    simp only [List.length_append, List.length_cons, List.length_nil]
    omega
theorem rh_sum (c : List UInt8) : spHead c = false → ∀ ps r, rh c = some (ps, r) → (ps.flatMap (·.raw)).length + 3 * r.length ≤ 3 * c.length := by
  induction hn : c.length using Nat.strongRecOn generalizing c with
  | _ n ih =>
    subst hn
    intro hc ps r h
    have hs := kv_sum c
    by_cases hk : (kv c).1 = []
    · rw [rh_end hk] at h
      cases h
      simp only [List.flatMap_nil, List.length_nil]
      omega
    · obtain ⟨hL, h2⟩ := kv_open hc hk
      have hih := ih _ (kv_lt hk) _ rfl h2
      obtain ⟨f1, f2, f3⟩ := field_rh _ _ c hL.1 hL.2.1 (fun y hy => (hL.2.2.1 y hy).1)
      cases hok : okOf (line1 c).1 with
      | false => rw [f1 hok] at h; cases h
      | true =>
        by_cases ht : trim (tillC (line1 c).1) = []
        · rw [f2 hok ht] at h
          have := hih ps r h
          omega
        · rw [f3 hok ht] at h
          cases hr : rh (kv c).2 with
          | none => rw [hr] at h; cases h
          | some x =>
            rw [hr] at h
            simp only [Option.map_some, Option.some.injEq, Prod.mk.injEq] at h
            obtain ⟨rfl, rfl⟩ := h
            have h5 := hih x.1 x.2 hr
            have e : (pfOf (line1 c).1 (contsL (line1 c).2)).raw = (kv c).1 := hL.1.symm
            rw [List.flatMap_cons, List.length_append, e]
            omega
theorem rhd_sum {c : List UInt8} {ps : List PF} {r : List UInt8} (h : rhd c = some (ps, r)) : (ps.flatMap (·.raw)).length ≤ 3 * c.length := by
  unfold rhd at h
  split at h
  · cases h
  · rename_i hc
    have := rh_sum c (by simpa using hc) ps r h
    omega
end Go.Proofs.YtjbbapodcngnaaaGreatDoor.Hdr

namespace Go.Proofs.YtjbbapodcngnaaaGreatDoor
open Go.RowKit Hdr

def sumB (l : List Ab) : Nat := (l.flatMap Ab.bytes).length
theorem sumB_cons (x : Ab) (l : List Ab) : sumB (x :: l) = x.bytes.length + sumB l := by simp [sumB]
theorem sumB_sub {l l' : List Ab} (h : l'.Sublist l) : sumB l' ≤ sumB l := by
  induction h with
  | slnil => exact Nat.le_refl _
  | cons x _ ih => rw [sumB_cons]; omega
  | cons_cons x _ ih => rw [sumB_cons, sumB_cons]; omega
theorem eraseKey_sublist (k : List UInt8) : ∀ (n : Nat) (l : List Ab), (eraseKey k n l).Sublist l
  | _, [] => List.Sublist.slnil
  | n, x :: l => by
    unfold eraseKey
    split
    · split
      · exact List.Sublist.cons _ (List.Sublist.refl _)
      · exact List.Sublist.cons_cons _ (eraseKey_sublist k _ l)
    · exact List.Sublist.cons_cons _ (eraseKey_sublist k _ l)
theorem step_sum {s : St} {l l' : List Ab} (h : stepOk s l l') (hg : stepGood s) (hl : ∀ x ∈ l, x.good) : sumB l' ≤ sumB l + 9000 := by
  have hgood := (step_good h hg hl).1
  have hf := fun k : List UInt8 => sumB_sub (List.filter_sublist (p := fun x : Ab => decide (x.k ≠ k)) (l := l))
  rcases h with ⟨hop, rfl⟩ | ⟨hop, rfl⟩ | ⟨hop, rfl⟩ | ⟨hop, p, r, _, hr, hraw, rfl⟩ | ⟨hop, m, hm, hlt, rfl⟩ | ⟨hop, m, hm, hlt, rfl⟩
  · have := (hgood _ (List.mem_cons_self ..)).1.2
    rw [sumB_cons]
    omega
  · have := (hgood _ (List.mem_cons_self ..)).1.2
    have := hf (canon s.key)
    rw [sumB_cons]
    omega
  · have := hf (canon s.key)
    omega
  · have := (hgood _ (List.mem_cons_self ..)).1.2
    rw [sumB_cons]
    omega
  · have := sumB_sub (List.eraseIdx_sublist (l := l) (k := m))
    omega
  · have := sumB_sub (eraseKey_sublist (canon s.key) m l)
    omega
theorem chain_sum : ∀ {ss : List St} {l l' : List Ab}, Chain ss l l' → (∀ x ∈ l, x.good) → sumB l' ≤ sumB l + 9000 * ss.length
  | [], _, _, h, _ => by
    cases h
    simp
  | _ :: _, _, _, ⟨m, a, b, c⟩, hl => by
    have h1 := step_sum a b hl
    have h2 := chain_sum c (step_good a b hl).1
    simp only [List.length_cons]
    omega
theorem sumB_read {c : List UInt8} {ps : List PF} {r : List UInt8} (h : rhd c = some (ps, r)) : sumB (ps.map abP) ≤ 3 * c.length := by
  have := rhd_sum h
  unfold sumB
  rw [List.flatMap_map]
  exact this

/-- What was written is read again: the same keys and bytes. -/
theorem written_read {l' : List Ab} (hg : ∀ x ∈ l', x.good) : Short (wrb l') ∧ ∃ ps, rhd (wrb l') = some (ps, []) ∧ ps.map (fun p => (p.k, p.raw)) = l'.map (fun x => (x.k, x.bytes)) ∧ wrb (ps.map abP) = wrb l' := by
  have hw : ∀ y ∈ l'.map (fun x => (x.k, x.bytes)), Wr 2000 y.1 y.2 := fun y hy => by
    obtain ⟨x, hx, rfl⟩ := List.mem_map.1 hy
    exact (hg x hx).2
  have e : wrb l' = (l'.map (fun x => (x.k, x.bytes))).flatMap (·.2) ++ [13, 10] := by
    unfold wrb
    rw [List.flatMap_map]
  obtain ⟨h1, ps, h2, h3⟩ := rh_written 2000 _ hw
  refine ⟨by rw [e]; exact short_written (by decide) _ hw, ps, ?_, h3, ?_⟩
  · rw [e]
    unfold rhd
    rw [h1, h2]
    simp
  · rw [e, ← h3]
    unfold wrb
    rw [List.flatMap_map, List.flatMap_map]
    rfl
end Go.Proofs.YtjbbapodcngnaaaGreatDoor
namespace Go.Proofs.YtjbbapodcngnaaaGreatDoor
open Go.RowKit Hdr

set_option maxRecDepth 100000 in
set_option maxHeartbeats 1000000 in
theorem headerSame_any (l : List UInt8) (ps : List PF) (c : List UInt8) (ea : Addr) (w : World) (hs : Short l) (hlen : l.length ≤ 1000000) {N : Nat} (L : Laid N ea w) (hN : N ≤ w.heap.size) (hr : rhd l = some (ps, c)) (hpl : ps.length ≤ 100000) (hwl : (wrb (ps.map abP)).length ≤ 100000000) :
    Calls Tryz.prog 13 #[str l] w fun e w' => e = .returned (.tuple #[str (wrb (ps.map abP)), .bool true]) ∧ Keeps No w w' := by
  have H := headed_any l ea w hs hlen L hN
  rw [hr] at H
  have HH := Lib.hid H
  have HWL := Lib.hid hwl
  clear H hs hr L hwl
  go_enter Tryz.func13, Tryz.ntmps13
  go_wp2_with (fail)
  refine HH.out.mono ?_
  rintro e w1 ⟨K, hv, fs, rfl, hh, ht⟩
  have hab := tells_ab ht
  have hfl : fs.length ≤ 100000 := by rw [ht.length]; exact hpl
  obtain ⟨lb, cap, m, rfl, hRd⟩ := HRd.of_hdr hh
  have kA : Keeps No w1 (w1.alloc (.cells #[.slice (some ⟨lb, 0, none⟩) fs.length cap, .map m] 74)) := (Keeps.refl No w1).alloc _
  have hfine : ∀ f ∈ fs, f.ab.fine := fun f hf => by
    have h1 : f.ab ∈ ps.map abP := by rw [← hab]; exact List.mem_map_of_mem hf
    obtain ⟨p, _, h2⟩ := List.mem_map.1 h1
    rw [← h2]
    exact fun h => by cases h
  have HW := Lib.hid (written_any lb cap m fs _ (hRd.keep_no kA) hfine (by omega) (by rw [hab]; exact HWL.out))
  have HK := Lib.hid (K.trans' kA)
  have HAB := Lib.hid hab
  clear hab ht hh hRd kA hfine K HH hpl
  go_wp2_with (fail)
  refine HW.out.mono ?_
  rintro e w2 ⟨rfl, K2⟩
  have HK2 := Lib.hid (HK.out.trans' K2)
  clear K2
  go_wp2
  go_ret2
  exact ⟨by rw [← HAB.out]; rfl, HK2.out⟩

set_option maxRecDepth 100000 in
set_option maxHeartbeats 1000000 in
/-- HeaderOf of a longer text. -/
theorem headerOf_long (l : List UInt8) (ea : Addr) (w : World) (hs : Short l) (hlen : l.length ≤ 1000000) {N : Nat} (L : Laid N ea w) (hN : N ≤ w.heap.size) (hr : ∀ ps c, rhd l = some (ps, c) → ps.length ≤ 100000 ∧ c.length ≤ l.length) :
    Calls Tryz.prog 12 #[str l] w (HoPost l (rhd l) w) := by
  have H := headed_any l ea w hs (by omega) L hN
  generalize rhd l = r at *
  have HR := Lib.hid hr
  clear hr hs L
  have hls : (⟨l.toArray⟩ : ByteArray).size = l.length := by show l.toArray.size = _; simp
  unfold str at *
  go_enter Tryz.func12, Tryz.ntmps12
  go_wp2_with (fail)
  refine H.mono ?_
  rintro e w1 ⟨K, hpost⟩
  cases r with
  | none =>
    obtain ⟨xa, xn, xc, ym, k, rfl⟩ := hpost
    clear H
    go_wp2
    go_ret3
    exact ⟨K.alloc _, rfl⟩
  | some pc =>
    obtain ⟨ps, c⟩ := pc
    obtain ⟨hv, fs, rfl, hh, ht⟩ := hpost
    obtain ⟨hpl, hcl⟩ := HR.out ps c rfl
    clear H HR
    have HH := Lib.hid hh
    obtain ⟨lb, cap, m, rfl, hh2⟩ := hh
    clear hh2
    go_wp2_with (fail)
    have kA : Keeps No w1 (w1.alloc (.cells #[.slice (some ⟨lb, 0, none⟩) fs.length cap, .map m] 74)) := (Keeps.refl No w1).alloc _
    refine (fieldsOf_any w.heap.size _ fs ps _ (HH.out.up kA (fun x h => h.elim)) ht (by rw [ht.length]; exact hpl)).mono ?_
    rintro e w2 ⟨v, rfl, hrow, K2⟩
    have hsum : IntKind.i64.wrap ((l.length : Int) - (c.length : Int)) = (l.length : Int) - c.length := by rw [IntKind.wrap_i64]; omega
    have HROW := Lib.hid hrow
    clear hrow
    go_wp2
    go_ret3
    refine ⟨K.trans' (kA.trans' K2), v, rfl, ownsRow_mono HROW.out ?_⟩
    have := K.size
    simp
    omega
end Go.Proofs.YtjbbapodcngnaaaGreatDoor
