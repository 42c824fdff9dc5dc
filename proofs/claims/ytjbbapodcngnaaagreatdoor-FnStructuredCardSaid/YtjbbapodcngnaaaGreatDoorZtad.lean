/- spec, messages: mailRight, one message of its parts. -/
import Derived.Test.YtjbbapodcngnaaaGreatDoorZtac
import Derived.Test.YtjbbapodcngnaaaGreatDoorZtab
namespace Go.Proofs.YtjbbapodcngnaaaGreatDoor
open Go.RowKit Hdr

/-- What mailRight leaves: how many parts are left, at block lb. -/
def RPost (lb : Nat) (k : Int) (m : Ml) (w : World) (e : Ending) (w' : World) : Prop :=
  ∃ (b : Bool) (k' : Int), e = .returned (.bool b) ∧ Blk w' lb [.int .i64 k'] 3 ∧ Keeps (fun x => x = lb) w w' ∧ (b = true → MlOk m ∧ 0 ≤ k' ∧ k' + (msize m : Int) = k)
/-- What stands ahead of the parts is right. -/
structure TopOk (hd : List Hd) (ty sub id ab way : List UInt8) (kids : List Ml) : Prop where
  heads : hd.length ≤ 8
  kn : kids.length ≤ 16
  typ : tok7 ty = true
  sb : tok7 sub = true
  idd : Says id
  abt : Says ab
  wy : way = [] ∨ way = w7 ∨ way = w8
theorem beq_dec (a b : List UInt8) : (a == b) = decide (a = b) := by
  rw [Bool.eq_iff_iff, beq_iff_eq, decide_eq_true_iff]
theorem rp_no {lb : Nat} {k k' : Int} {m : Ml} {w w' : World} (h1 : Blk w' lb [.int .i64 k'] 3) (h2 : Keeps (fun x => x = lb) w w') : RPost lb k m w (.returned (.bool false)) w' := ⟨false, k', rfl, h1, h2, fun h => by cases h⟩

set_option maxRecDepth 100000 in
set_option maxHeartbeats 8000000 in
theorem mailRight_node (ha : Option Addr) (hc : Nat) (hd : List Hd) (kind : Int) (ty sub id ab way text : List UInt8) (ka : Option Addr) (kc : Nat) (kids : List Ml) (css : List (List Value)) (d e lb : Nat) (k : Int) (w0 w : World)
    (hwf : MlWf hd kind ty sub id ab way text) (hh : RowsAt w0 2 (.slice ha hd.length hc) (hd.map hdC)) (hm : MlsC w0 kids css) (hr : RowsAt w0 9 (.slice ka kids.length kc) css)
    (K0 : Keeps No w0 w) (hlb : w0.heap.size ≤ lb) (hL : Blk w lb [.int .i64 k] 3) (hk0 : 0 ≤ k) (hk16 : k ≤ 16) (hd5 : d ≤ 5) (he : d ≠ 0 → d = e + 1)
    (IH : d ≠ 0 → ∀ (i : Nat) (m : Ml) (ha' : Option Addr) (hc' : Nat) (ka' : Option Addr) (kc' : Nat), kids[i]? = some m → MlC w0 m (mlCs (.slice ha' m.head.length hc') m.kind m.type m.sub m.id m.about m.way m.text (.slice ka' m.kids.length kc')) →
      ∀ (W : World) (k' : Int), Keeps No w0 W → Blk W lb [.int .i64 k'] 3 → 0 ≤ k' → k' ≤ 16 →
        Calls Tryz.prog 37 #[mlVal ha' m.head.length hc' m.kind m.type m.sub m.id m.about m.way m.text ka' m.kids.length kc', .int .i64 e, .pointer (some ⟨lb, 0, none⟩)] W (RPost lb k' m W)) :
    Calls Tryz.prog 37 #[mlVal ha hd.length hc kind ty sub id ab way text ka kids.length kc, .int .i64 d, .pointer (some ⟨lb, 0, none⟩)] w (RPost lb k (.mk hd kind ty sub id ab way text kids) w) := by
  have hB : Blk (w.alloc (.cells #[.slice ha hd.length hc, .int .i64 kind, str ty, str sub, str id, str ab, str way, str text, .slice ka kids.length kc] 42)) w.heap.size [.slice ha hd.length hc, .int .i64 kind, str ty, str sub, str id, str ab, str way, str text, .slice ka kids.length kc] 42 := Blk.new w _ _
  have KA : Keeps No w (w.alloc (.cells #[.slice ha hd.length hc, .int .i64 kind, str ty, str sub, str id, str ab, str way, str text, .slice ka kids.length kc] 42)) := (Keeps.refl No w).alloc _
  have hLl := hL.lt
  have hL1 := hL.keep_no KA
  have HKN := Lib.hid hwf
  have HH := Lib.hid hh
  have HM := Lib.hid hm
  have HR := Lib.hid hr
  have HK0 := Lib.hid K0
  have HLB := Lib.hid hlb
  have HIH := Lib.hid IH
  have HE := Lib.hid he
  have hne : lb ≠ w.heap.size := by omega
  have q1 := hwf.l1
  have q2 := hwf.l2
  have q3 := hwf.l3
  have q4 := hwf.l4
  have q6 := hwf.l6
  unfold maxLen at q1 q2 q3 q4 q6
  have HTY := Lib.hid (fun w => token7_any ty w q1)
  have HSU := Lib.hid (fun w => token7_any sub w q2)
  have HID := Lib.hid (fun w => saying_any id w q3)
  have HAB := Lib.hid (fun w => saying_any ab w q4)
  have HTX := Lib.hid (fun w => textRight_any text w hwf.l6)
  unfold mlVal
  clear hwf hh hm hr K0 hlb IH he hL q1 q2 q3 q4 q6
  go_enter Tryz.func37, Tryz.ntmps37
  go_upto_region 1 with (fail)
  generalize (w.alloc (.cells #[.slice ha hd.length hc, .int .i64 kind, str ty, str sub, str id, str ab, str way, str text, .slice ka kids.length kc] 42)) = wA at *
  have HKA := Lib.hid KA
  have cl : wA.cell? ⟨lb, 0, none⟩ = some (.int .i64 k) := hL1.cell 0
  have fl : wA.frozen? ⟨lb, 0, none⟩ = false := hL1.frozen 0
  have hw1 : IntKind.i64.wrap (k - 1) = k - 1 := IntWalk.i64_in _ (by omega)
  have hLB := (hL1.set 0 (.int .i64 (k - 1))).to (show [Value.int .i64 k].set 0 (.int .i64 (k - 1)) = [.int .i64 (k - 1)] from rfl)
  have kB : Keeps (fun x => x = lb) wA (wA.setCell ⟨lb, 0, none⟩ (.int .i64 (k - 1))) := (Keeps.refl (fun x => x = lb) wA).setCell (p := ⟨lb, 0, none⟩) (.inl rfl) _
  have hBB := hB.keep kB (fun h => hne h.symm)
  have HB := Lib.hid hBB
  have HLL := Lib.hid hLB
  have HKB := Lib.hid (KA.of_no.trans' kB : Keeps (fun x => x = lb) w _)
  clear hL1 hB KA hLB kB hBB
  go_upto_region 2 with (fail)
  generalize (wA.setCell ⟨lb, 0, none⟩ (.int .i64 (k - 1))) = wB at *
  clear cl fl
  have cl : wB.cell? ⟨lb, 0, none⟩ = some (.int .i64 (k - 1)) := HLL.out.cell 0
  have c0 : wB.cell? ⟨w.heap.size, 0, none⟩ = some (.slice ha hd.length hc) := HB.out.cell 0
  have c2 : wB.cell? ⟨w.heap.size, 2, none⟩ = some (str ty) := HB.out.cell 2
  have c3 : wB.cell? ⟨w.heap.size, 3, none⟩ = some (str sub) := HB.out.cell 3
  have c4 : wB.cell? ⟨w.heap.size, 4, none⟩ = some (str id) := HB.out.cell 4
  have c5 : wB.cell? ⟨w.heap.size, 5, none⟩ = some (str ab) := HB.out.cell 5
  have c6 : wB.cell? ⟨w.heap.size, 6, none⟩ = some (str way) := HB.out.cell 6
  have c8 : wB.cell? ⟨w.heap.size, 8, none⟩ = some (.slice ka kids.length kc) := HB.out.cell 8
  clear hw1
  go_cut [80] (fun s80 wx => ∃ b : Bool, s80 = .bool b ∧ (b = false → 1 ≤ k ∧ d ≠ 0 ∧ TopOk hd ty sub id ab way kids) ∧ Keeps No wB wx)
  case first =>
    by_cases h1 : k = 0
    · have e1 : decide (k - 1 < 0) = true := decide_eq_true (by omega)
      clear h1 hk0
      go_wp2
      any_goals (rename_i hu hb; exact absurd hu (by unfold undef; simp))
      go_meet
      case rel => exact ⟨true, rfl, (fun h => by cases h), Keeps.refl _ _⟩
    have e1 : decide (k - 1 < 0) = false := decide_eq_false (by omega)
    have e1b : ¬ (k - 1 < 0) := by omega
    by_cases h2 : d = 0
    · have e2 : ((d : Int) == 0) = true := beq_iff_eq.2 (by omega)
      clear h2
      go_wp2
      any_goals (rename_i hu hb; exact absurd hu (by unfold undef; simp))
      go_meet
      case rel => exact ⟨true, rfl, (fun h => by cases h), Keeps.refl _ _⟩
    have e2 : ((d : Int) == 0) = false := beq_eq_false_iff_ne.2 (by omega)
    by_cases h3 : 8 < hd.length
    · have e3 : decide ((8 : Int) < (hd.length : Int)) = true := decide_eq_true (by omega)
      go_wp2
      any_goals (rename_i hu hb; exact absurd hu (by unfold undef; simp))
      go_meet
      case rel => exact ⟨true, rfl, (fun h => by cases h), Keeps.refl _ _⟩
    have e3 : decide ((8 : Int) < (hd.length : Int)) = false := decide_eq_false (by omega)
    by_cases h4 : 16 < kids.length
    · have e4 : decide ((16 : Int) < (kids.length : Int)) = true := decide_eq_true (by omega)
      go_wp2
      any_goals (rename_i hu hb; exact absurd hu (by unfold undef; simp))
      go_meet
      case rel => exact ⟨true, rfl, (fun h => by cases h), Keeps.refl _ _⟩
    have e4 : decide ((16 : Int) < (kids.length : Int)) = false := decide_eq_false (by omega)
    have HN := Lib.hid (show 1 ≤ k ∧ d ≠ 0 ∧ hd.length ≤ 8 ∧ kids.length ≤ 16 from ⟨by omega, h2, by omega, by omega⟩)
    clear h1 h2 h3 h4 e1b
    go_wp2_with (fail)
    refine (HTY.out _).mono ?_
    rintro e' w1 ⟨rfl, rfl⟩
    cases ht7 : tok7 ty with
    | false =>
      clear ht7
      go_wp2
      any_goals (rename_i hu hb; exact absurd hu (by unfold undef; simp))
      go_meet
      case rel => exact ⟨true, rfl, (fun h => by cases h), Keeps.refl _ _⟩
    | true =>
    have HT7 := Lib.hid ht7
    clear ht7
    go_wp2_with (fail)
    refine (HSU.out _).mono ?_
    rintro e' w1 ⟨rfl, rfl⟩
    cases hs7 : tok7 sub with
    | false =>
      clear hs7
      go_wp2
      any_goals (rename_i hu hb; exact absurd hu (by unfold undef; simp))
      go_meet
      case rel => exact ⟨true, rfl, (fun h => by cases h), Keeps.refl _ _⟩
    | true =>
    have HS7 := Lib.hid hs7
    clear hs7
    go_wp2_with (fail)
    refine (HID.out _).mono ?_
    rintro e' w1 ⟨b, rfl, hb, rfl⟩
    cases b with
    | false =>
      clear hb
      go_wp2
      any_goals (rename_i hu hb; exact absurd hu (by unfold undef; simp))
      go_meet
      case rel => exact ⟨true, rfl, (fun h => by cases h), Keeps.refl _ _⟩
    | true =>
    have HI := Lib.hid (hb (by trivial))
    clear hb
    go_wp2_with (fail)
    refine (HAB.out _).mono ?_
    rintro e' w1 ⟨b, rfl, hb, rfl⟩
    cases b with
    | false =>
      clear hb
      go_wp2
      any_goals (rename_i hu hb; exact absurd hu (by unfold undef; simp))
      go_meet
      case rel => exact ⟨true, rfl, (fun h => by cases h), Keeps.refl _ _⟩
    | true =>
    have HA := Lib.hid (hb (by trivial))
    clear hb
    have hli := HI.out.len
    have hla := HA.out.len
    have happ := str_app id ab
    have hn1 : ¬ (9223372036854775807 < id.length + ab.length) := by omega
    have HCO := Lib.hid (fun w => contains_any (id ++ ab) w (by simp; omega))
    go_wp2_with (fail)
    refine (HCO.out _).mono ?_
    rintro e' w1 ⟨b, rfl, K1⟩
    clear happ hn1
    have HK1 := Lib.hid K1
    have d6 : w1.cell? ⟨w.heap.size, 6, none⟩ = some (str way) := (HB.out.keep_no K1).cell 6
    clear K1 c0 c2 c3 c4 c5 c6 c8 cl
    cases b with
    | true =>
      go_wp2
      any_goals (rename_i hu hb; exact absurd hu (by unfold undef; simp))
      go_meet
      case rel => exact ⟨true, rfl, (fun h => by cases h), HK1.out⟩
    | false =>
    by_cases hy0 : way = []
    · have y0 : (way == []) = true := by rw [hy0]; rfl
      have y1 : way.isEmpty = true := by rw [hy0]; rfl
      have HY := Lib.hid hy0
      clear hy0
      go_wp2
      go_meet
      case rel => exact ⟨false, rfl, fun _ => ⟨HN.out.1, HN.out.2.1, ⟨HN.out.2.2.1, HN.out.2.2.2, HT7.out, HS7.out, HI.out, HA.out, .inl HY.out⟩⟩, HK1.out⟩
    have y0 : (way == []) = false := beq_eq_false_iff_ne.2 hy0
    have y1 : way.isEmpty = false := by cases way; exact absurd rfl hy0; rfl
    by_cases hy7 : way = w7
    · have y2 : (way == [55, 98, 105, 116]) = true := by rw [hy7]; rfl
      have HY := Lib.hid hy7
      clear hy7 hy0
      go_wp2
      go_meet
      case rel => exact ⟨false, rfl, fun _ => ⟨HN.out.1, HN.out.2.1, ⟨HN.out.2.2.1, HN.out.2.2.2, HT7.out, HS7.out, HI.out, HA.out, .inr (.inl HY.out)⟩⟩, HK1.out⟩
    have y2 : (way == [55, 98, 105, 116]) = false := beq_eq_false_iff_ne.2 hy7
    by_cases hy8 : way = w8
    · have y3 : (way == [56, 98, 105, 116]) = true := by rw [hy8]; rfl
      have HY := Lib.hid hy8
      clear hy7 hy0 hy8
      go_wp2
      go_meet
      case rel => exact ⟨false, rfl, fun _ => ⟨HN.out.1, HN.out.2.1, ⟨HN.out.2.2.1, HN.out.2.2.2, HT7.out, HS7.out, HI.out, HA.out, .inr (.inr HY.out)⟩⟩, HK1.out⟩
    have y3 : (way == [56, 98, 105, 116]) = false := beq_eq_false_iff_ne.2 hy8
    clear hy7 hy0 hy8
    go_wp2
    go_meet
    case rel => exact ⟨true, rfl, (fun h => by cases h), HK1.out⟩
  case rest =>
    obtain ⟨b, rfl, hb, KC⟩ := hcut
    have HKC := Lib.hid KC
    have HLC := Lib.hid (HLL.out.keep_no KC)
    have HBC := Lib.hid (HB.out.keep_no KC)
    have HKW := Lib.hid (HKB.out.trans_no KC)
    clear KC c0 c2 c3 c4 c5 c6 c8 cl
    cases b with
    | true =>
      clear hb
      go_wp2
      go_ret
      exact rp_no HLC.out HKW.out
    | false =>
    obtain ⟨hk1, hd0, htop⟩ := hb (by trivial)
    have HTOP := Lib.hid htop
    have HK1 := Lib.hid hk1
    have HD0 := Lib.hid hd0
    have hdl := htop.heads
    have hkl := htop.kn
    have c0 : wc.cell? ⟨w.heap.size, 0, none⟩ = some (.slice ha hd.length hc) := HBC.out.cell 0
    clear hb hk1 hd0 htop
    go_wp2
    go_loopg [7] hd.length (fun q s7 wr => ∃ i : Nat, s7 = .int .i64 i ∧ i + q = hd.length ∧ (∀ h ∈ hd.take i, HeadOk h) ∧ Keeps No wc wr)
    case atStart => exact ⟨0, rfl, by omega, (fun h hh => by simp at hh), Keeps.refl _ _⟩
    case round =>
      obtain ⟨i, rfl, hin, hal, KR⟩ := hrel
      have HIN := Lib.hid hin
      have HAL := Lib.hid hal
      have HKR := Lib.hid KR
      have r0 : wr.cell? ⟨w.heap.size, 0, none⟩ = some (.slice ha hd.length hc) := (HBC.out.keep_no KR).cell 0
      have HL0 := Lib.hid (show Keeps No w0 wr from (HK0.out.trans (HKW.out.trans_no KR) (fun x hx hl => by have := HLB.out; omega)))
      clear hin hal KR c0
      by_cases hi : i < hd.length
      · have hii : (i : Int) < (hd.length : Int) := by omega
        have hlt : decide ((i : Int) < (hd.length : Int)) = true := decide_eq_true hii
        obtain ⟨x, hx⟩ : ∃ x, hd[i]? = some x := ⟨_, List.getElem?_eq_getElem hi⟩
        obtain ⟨sb, so, rfl, -, hscap, x0, x1⟩ := hd_cells (HH.out.keep HL0.out) hx
        have hxl := HKN.out.hd x (List.mem_of_getElem? hx)
        have HHR := Lib.hid (fun w => headRight_any x.1 x.2 w hxl.1 hxl.2)
        have htk : hd.take (i + 1) = hd.take i ++ [x] := by rw [List.take_add_one, hx]; rfl
        have HTK := Lib.hid htk
        have hw1 : IntKind.i64.wrap ((i : Int) + 1) = (i : Int) + 1 := IntWalk.i64_in _ (by omega)
        obtain ⟨x1v, x2v⟩ := x
        simp only at x0 x1 HHR
        clear hx hxl htk
        go_wp2_with (fail)
        refine (HHR.out _).mono ?_
        rintro e' w2 ⟨b, rfl, hb, K2⟩
        have HK2 := Lib.hid (HKR.out.trans_no K2)
        clear K2 x0 x1 r0
        cases b with
        | false =>
          clear hb
          go_wp2
          go_ret
          exact rp_no (HLC.out.keep_no HK2.out) (HKW.out.trans_no HK2.out)
        | true =>
          have HB2 := Lib.hid (hb (by trivial))
          clear hb
          go_wp2
          go_roundg (gk - 1)
          case measure => have := HIN.out; omega
          case rel => exact ⟨i + 1, by simp, by have := HIN.out; omega, (fun h hh => by
            rw [HTK.out] at hh
            rcases List.mem_append.1 hh with hh | hh
            · exact HAL.out h hh
            · rw [List.mem_singleton.1 hh]
              exact HB2.out), HK2.out⟩
      · have hii : ¬ ((i : Int) < (hd.length : Int)) := by omega
        have hlt : decide ((i : Int) < (hd.length : Int)) = false := decide_eq_false hii
        have HHD := Lib.hid (show ∀ h ∈ hd, HeadOk h from fun h hh => HAL.out h (by rwa [List.take_of_length_le (by omega)]))
        have HLR := Lib.hid (HLC.out.keep_no HKR.out)
        have HBR := Lib.hid (HBC.out.keep_no HKR.out)
        have HKWR := Lib.hid (HKW.out.trans_no HKR.out)
        have r1 : wr.cell? ⟨w.heap.size, 1, none⟩ = some (.int .i64 kind) := HBR.out.cell 1
        have r2 : wr.cell? ⟨w.heap.size, 2, none⟩ = some (str ty) := HBR.out.cell 2
        have r3 : wr.cell? ⟨w.heap.size, 3, none⟩ = some (str sub) := HBR.out.cell 3
        have r7 : wr.cell? ⟨w.heap.size, 7, none⟩ = some (str text) := HBR.out.cell 7
        have r8 : wr.cell? ⟨w.heap.size, 8, none⟩ = some (.slice ka kids.length kc) := HBR.out.cell 8
        clear HIN HAL HL0
        go_upto_block 2 with (fail)
        go_cut [] (fun wx => KindOk kind ty sub text kids ∧ Keeps No wr wx)
        case first =>
          have hno : RPost lb k (.mk hd kind ty sub id ab way text kids) w (.returned (.bool false)) wr := rp_no HLR.out HKWR.out
          have HNO := Lib.hid hno
          clear hno
          have t1e : (ty == []) = decide (ty = []) := by rw [Bool.eq_iff_iff]; simp
          have t1i : ty.isEmpty = decide (ty = []) := by cases ty <;> simp
          have t2e : (sub == []) = decide (sub = []) := by rw [Bool.eq_iff_iff]; simp
          have t2i : sub.isEmpty = decide (sub = []) := by cases sub <;> simp
          have t3e : (text == []) = decide (text = []) := by rw [Bool.eq_iff_iff]; simp
          have t3i : text.isEmpty = decide (text = []) := by cases text <;> simp
          have m1e : (ty == [109, 117, 108, 116, 105, 112, 97, 114, 116]) = decide (ty = multiS) := beq_dec ty multiS
          have m2e : (ty == [109, 101, 115, 115, 97, 103, 101]) = decide (ty = messS) := beq_dec ty messS
          have m3e : (sub == [114, 102, 99, 56, 50, 50]) = decide (sub = rfcS) := beq_dec sub rfcS
          obtain ⟨a1, ha1⟩ : ∃ a, decide (ty = []) = a := ⟨_, rfl⟩
          obtain ⟨a2, ha2⟩ : ∃ a, decide (sub = []) = a := ⟨_, rfl⟩
          obtain ⟨a3, ha3⟩ : ∃ a, decide (text = []) = a := ⟨_, rfl⟩
          obtain ⟨b1, hb1⟩ : ∃ a, decide (ty = multiS) = a := ⟨_, rfl⟩
          obtain ⟨b2, hb2⟩ : ∃ a, decide (ty = messS) = a := ⟨_, rfl⟩
          obtain ⟨b3, hb3⟩ : ∃ a, decide (sub = rfcS) = a := ⟨_, rfl⟩
          rw [ha1] at t1e t1i
          rw [ha2] at t2e t2i
          rw [ha3] at t3e t3i
          rw [hb1] at m1e
          rw [hb2] at m2e
          rw [hb3] at m3e
          have A1 := Lib.hid ha1
          have A2 := Lib.hid ha2
          have A3 := Lib.hid ha3
          have B1 := Lib.hid hb1
          have B2 := Lib.hid hb2
          have B3 := Lib.hid hb3
          clear ha1 ha2 ha3 hb1 hb2 hb3
          by_cases hk0' : kind = 0
          · have e0 : (kind == 0) = true := by rw [hk0']; rfl
            have E0 := Lib.hid hk0'
            clear hk0'
            by_cases hn : 0 < kids.length
            · have e1 : decide ((0 : Int) < (kids.length : Int)) = true := decide_eq_true (by omega)
              have e1b : decide (0 < kids.length) = true := decide_eq_true hn
              clear hn
              go_wp2
              go_ret
              exact HNO.out
            have e1 : decide ((0 : Int) < (kids.length : Int)) = false := decide_eq_false (by omega)
            have e1b : decide (0 < kids.length) = false := decide_eq_false hn
            have HN0 := Lib.hid (show kids = [] from List.eq_nil_of_length_eq_zero (by omega))
            clear hn
            go_wp2_with (fail)
            refine (HTX.out _).mono ?_
            rintro e' w2 ⟨b, rfl, hb, K2⟩
            have HK2 := Lib.hid K2
            have s2 : w2.cell? ⟨w.heap.size, 2, none⟩ = some (str ty) := (HBR.out.keep_no K2).cell 2
            have s3 : w2.cell? ⟨w.heap.size, 3, none⟩ = some (str sub) := (HBR.out.keep_no K2).cell 3
            have HNO2 := Lib.hid (show RPost lb k (.mk hd kind ty sub id ab way text kids) w (.returned (.bool false)) w2 from rp_no (HLR.out.keep_no K2) (HKWR.out.trans_no K2))
            clear K2 r1 r2 r3 r7 r8
            cases b with
            | false =>
              clear hb
              go_wp2
              go_ret
              exact HNO2.out
            | true =>
            have HTO := Lib.hid (hb (by trivial))
            clear hb
            cases b1 with
            | true =>
              cases a1 <;> cases a2 <;> (go_wp2; go_ret; exact HNO2.out)
            | false =>
            cases b2 with
            | true =>
              cases a1 <;> cases a2 <;> (go_wp2; go_ret; exact HNO2.out)
            | false =>
            cases a1 <;> cases a2
            · go_wp2
              go_meet
              case rel => exact ⟨⟨.inl ⟨E0.out, HN0.out, HTO.out, ⟨fun h => absurd h (of_decide_eq_false A1.out), fun h => absurd h (of_decide_eq_false A2.out)⟩, of_decide_eq_false B1.out, of_decide_eq_false B2.out⟩⟩, HK2.out⟩
            · go_wp2
              go_ret
              exact HNO2.out
            · go_wp2
              go_ret
              exact HNO2.out
            · go_wp2
              go_meet
              case rel => exact ⟨⟨.inl ⟨E0.out, HN0.out, HTO.out, ⟨fun _ => of_decide_eq_true A2.out, fun _ => of_decide_eq_true A1.out⟩, of_decide_eq_false B1.out, of_decide_eq_false B2.out⟩⟩, HK2.out⟩
          have e0 : (kind == 0) = false := beq_eq_false_iff_ne.2 hk0'
          by_cases hk1' : kind = 1
          · have e1 : (kind == 1) = true := by rw [hk1']; rfl
            have E1 := Lib.hid hk1'
            clear hk0' hk1'
            by_cases hn : kids.length = 0
            · have e1 : ((kids.length : Int) == 0) = true := beq_iff_eq.2 (by omega)
              have e1b : (kids.length == 0) = true := beq_iff_eq.2 hn
              clear hn
              go_wp2
              go_ret
              exact HNO.out
            have e1 : ((kids.length : Int) == 0) = false := beq_eq_false_iff_ne.2 (by omega)
            have e1b : (kids.length == 0) = false := beq_eq_false_iff_ne.2 hn
            have HN0 := Lib.hid (show kids ≠ [] from fun h => hn (by rw [h]; rfl))
            clear hn
            cases b1 with
            | false => (go_wp2; go_ret; exact HNO.out)
            | true =>
            cases a2 with
            | true => (go_wp2; go_ret; exact HNO.out)
            | false =>
            cases a3 with
            | false => (go_wp2; go_ret; exact HNO.out)
            | true =>
            go_wp2
            go_meet
            case rel => exact ⟨⟨.inr (.inl ⟨E1.out, HN0.out, of_decide_eq_true B1.out, of_decide_eq_false A2.out, of_decide_eq_true A3.out⟩)⟩, Keeps.refl _ _⟩
          have e1 : (kind == 1) = false := beq_eq_false_iff_ne.2 hk1'
          by_cases hk2' : kind = 2
          · have e2 : (kind == 2) = true := by rw [hk2']; rfl
            have E2 := Lib.hid hk2'
            clear hk0' hk1' hk2'
            by_cases hn : kids.length = 1
            · have e1' : (kids.length : Int) = 1 := by omega
              have HN0 := Lib.hid hn
              clear hn
              cases b2 with
              | false => (go_wp2; go_ret; exact HNO.out)
              | true =>
              cases b3 with
              | false => (go_wp2; go_ret; exact HNO.out)
              | true =>
              cases a3 with
              | false => (go_wp2; go_ret; exact HNO.out)
              | true =>
              go_wp2
              go_meet
              case rel => exact ⟨⟨.inr (.inr ⟨E2.out, HN0.out, of_decide_eq_true B2.out, of_decide_eq_true B3.out, of_decide_eq_true A3.out⟩)⟩, Keeps.refl _ _⟩
            · have e1' : ¬ ((kids.length : Int) = 1) := by omega
              clear hn
              go_wp2
              go_ret
              exact HNO.out
          have e2 : (kind == 2) = false := beq_eq_false_iff_ne.2 hk2'
          clear hk0' hk1' hk2'
          go_wp2
          go_ret
          exact HNO.out
        case rest =>
          obtain ⟨hkd, KX⟩ := hcut
          have HKD := Lib.hid hkd
          have HKX := Lib.hid KX
          have HLX := Lib.hid (HLR.out.keep_no KX)
          have HBX := Lib.hid (HBR.out.keep_no KX)
          have HKWX := Lib.hid (HKWR.out.trans_no KX)
          have hxl := HBX.out.lt
          clear hkd KX r1 r2 r3 r7 r8 HLR HBR
          go_wp2
          go_loopg [8] kids.length (fun q s8 wy => ∃ (j : Nat) (k' : Int), s8 = .int .i64 j ∧ j + q = kids.length ∧ (∀ m ∈ kids.take j, MlOk m) ∧ Blk wy lb [.int .i64 k'] 3 ∧ 0 ≤ k' ∧ k' + (msizes (kids.take j) : Int) = k - 1 ∧ Keeps (fun x => x = lb) wc wy)
          case atStart => exact ⟨0, k - 1, rfl, by omega, (fun m hm => by simp at hm), HLX.out, by have := HK1.out; omega, by simp [msizes], Keeps.refl _ _⟩
          case round =>
            obtain ⟨j, k', rfl, hjn, hal, hlk, hk0', hsum, KY⟩ := hrel
            have HJN := Lib.hid hjn
            have HALL := Lib.hid hal
            have HLK := Lib.hid hlk
            have HSUM := Lib.hid hsum
            have HKY := Lib.hid KY
            have HK0' := Lib.hid hk0'
            have y8 : wr.cell? ⟨w.heap.size, 8, none⟩ = some (.slice ka kids.length kc) := (HBX.out.keep KY (fun h => hne h.symm)).cell 8
            have HKWY := Lib.hid (HKWX.out.trans' KY)
            have HL0 := Lib.hid (show Keeps No w0 wr from (HK0.out.trans HKWY.out (fun x hx hl => by have := HLB.out; omega)))
            clear hjn hal hlk hsum KY hk0'
            by_cases hj : j < kids.length
            · have hjj : (j : Int) < (kids.length : Int) := by omega
              have hlt2 : decide ((j : Int) < (kids.length : Int)) = true := decide_eq_true hjj
              obtain ⟨m, hmk⟩ : ∃ m, kids[j]? = some m := ⟨_, List.getElem?_eq_getElem hj⟩
              obtain ⟨b, o, kha, khc, kka, kkc, rfl, -, hcap, hmc, d0, d1, d2, d3, d4, d5, d6, d7, d8⟩ := kid_cells HM.out HR.out hmk
              have hms := msizes_take kids j m hmk
              have HMS := Lib.hid hms
              have HCL := Lib.hid (HIH.out HD0.out j m kha khc kka kkc hmk hmc wr k' HL0.out HLK.out HK0'.out (by have := HSUM.out; have := Int.natCast_nonneg (msizes (kids.take j)); omega))
              have htk : kids.take (j + 1) = kids.take j ++ [m] := by rw [List.take_add_one, hmk]; rfl
              have HTK := Lib.hid htk
              have hw1 : IntKind.i64.wrap ((j : Int) + 1) = (j : Int) + 1 := IntWalk.i64_in _ (by omega)
              have hde := HE.out HD0.out
              have hw2 : IntKind.i64.wrap ((d : Int) - 1) = (e : Int) := by rw [hde]; rw [show (((e + 1 : Nat) : Int) - 1) = (e : Int) by omega]; exact IntWalk.i64_in _ (by omega)
              unfold mlVal at HCL
              have x0 := HL0.out.cell d0 (fun h => h)
              have x1 := HL0.out.cell d1 (fun h => h)
              have x2 := HL0.out.cell d2 (fun h => h)
              have x3 := HL0.out.cell d3 (fun h => h)
              have x4 := HL0.out.cell d4 (fun h => h)
              have x5 := HL0.out.cell d5 (fun h => h)
              have x6 := HL0.out.cell d6 (fun h => h)
              have x7 := HL0.out.cell d7 (fun h => h)
              have x8 := HL0.out.cell d8 (fun h => h)
              obtain ⟨n1, hn1⟩ : ∃ n1, n1 = m.head.length := ⟨_, rfl⟩
              obtain ⟨n2, hn2⟩ : ∃ n2, n2 = m.kids.length := ⟨_, rfl⟩
              rw [← hn1] at HCL x0
              rw [← hn2] at HCL x8
              clear hn1 hn2 hms htk hmk hmc d0 d1 d2 d3 d4 d5 d6 d7 d8 hde
              go_wp2_with (fail)
              refine HCL.out.mono ?_
              rintro e' w2 ⟨b, k2, rfl, hb2, K2, hbb⟩
              have HK2 := Lib.hid (HKY.out.trans' K2)
              have HKW2 := Lib.hid (HKWY.out.trans' K2)
              have HB2 := Lib.hid hb2
              clear x0 x1 x2 x3 x4 x5 x6 x7 x8 y8 hb2 K2
              cases b with
              | false =>
                clear hbb
                go_wp2
                go_ret
                exact rp_no HB2.out HKW2.out
              | true =>
                have HBB := Lib.hid (hbb (by trivial))
                clear hbb
                go_wp2
                go_roundg (gk - 1)
                case measure => have := HJN.out; omega
                case rel => exact ⟨j + 1, k2, by simp, by have := HJN.out; omega, (fun x hx => by
                  rw [HTK.out] at hx
                  rcases List.mem_append.1 hx with hx | hx
                  · exact HALL.out x hx
                  · rw [List.mem_singleton.1 hx]
                    exact HBB.out.1), HB2.out, HBB.out.2.1, by have h1 := HBB.out.2.2; have h2 := HSUM.out; have h3 := HMS.out; omega, HK2.out⟩
            · have hjj : ¬ ((j : Int) < (kids.length : Int)) := by omega
              have hlt2 : decide ((j : Int) < (kids.length : Int)) = false := decide_eq_false hjj
              have hte : kids.take j = kids := List.take_of_length_le (by omega)
              have hall := HALL.out
              have hsm := HSUM.out
              rw [hte] at hall hsm
              have hsz : (msize (.mk hd kind ty sub id ab way text kids) : Int) = 1 + (msizes kids : Int) := by rw [msize]; omega
              have HOK := Lib.hid (show MlOk (.mk hd kind ty sub id ab way text kids) from by
                rw [MlOk]
                exact ⟨⟨HTOP.out.heads, HHD.out, HTOP.out.typ, HTOP.out.sb, HTOP.out.idd, HTOP.out.abt, HTOP.out.wy, HKD.out⟩, mlsOk_of kids hall⟩)
              have HSZ := Lib.hid (show k' + (msize (.mk hd kind ty sub id ab way text kids) : Int) = k by omega)
              clear hte hall hsm hsz
              go_wp2
              go_ret
              exact ⟨true, k', rfl, HLK.out, HKWY.out, fun _ => ⟨HOK.out, HK0'.out, HSZ.out⟩⟩
end Go.Proofs.YtjbbapodcngnaaaGreatDoor
