/- spec, messages: contains, Small7. spec, messages: headRight. spec, messages: textRight. -/
import Derived.Test.YtjbbapodcngnaaaGreatDoorZtab
namespace Go.Proofs.YtjbbapodcngnaaaGreatDoor
open Go.RowKit Hdr

def BoolPost (w : World) (e : Ending) (w' : World) : Prop := ∃ t : Bool, e = .returned (.bool t) ∧ Keeps No w w'

set_option maxRecDepth 100000 in
set_option maxHeartbeats 1000000 in
theorem contains_any (l : List UInt8) (w : World) (hlen : l.length ≤ 1000000) :
    Calls Tryz.prog 61 #[str l, .string ⟨#[61, 63]⟩] w (BoolPost w) := by
  have hls := str_len l
  go_enter Tryz.func61, Tryz.ntmps61
  go_wp2
  go_loopg [5] (l.length + 1) (fun n s4 wr => ∃ j : Nat, s4 = .int .i64 (j : Int) ∧ j + n = l.length + 1 ∧ Keeps No w wr)
  case atStart => exact ⟨0, rfl, by omega, Keeps.refl _ _⟩
  case round =>
    obtain ⟨j, rfl, hjn, K⟩ := hrel
    have HJN := Lib.hid hjn
    have HK := Lib.hid K
    have hw1 : IntKind.i64.wrap ((j : Int) + 1) = (j : Int) + 1 := IntWalk.i64_in _ (by omega)
    have hw2 : IntKind.i64.wrap ((j : Int) + 2) = (j : Int) + 2 := IntWalk.i64_in _ (by omega)
    have hjl : j ≤ l.length + 1 := by omega
    clear hjn K
    by_cases hj : j + 2 ≤ l.length
    · have e1 : decide ((j : Int) + 2 ≤ (l.length : Int)) = true := decide_eq_true (by omega)
      have b1 : (j : Int) + 2 ≤ (l.length : Int) := by omega
      have hc1 := str_cut l j (j + 2)
      have hts : ((j : Int) + 2).toNat = j + 2 := by omega
      rw [show j + 2 - j = 2 by omega] at hc1
      obtain ⟨x, hx⟩ : ∃ x, x = (l.drop j).take 2 := ⟨_, rfl⟩
      rw [← hx] at hc1
      obtain ⟨t, ht⟩ : ∃ t, (x == [61, 63]) = t := ⟨_, rfl⟩
      clear hx
      cases t with
      | true =>
        go_wp2
        go_ret
        exact ⟨true, rfl, HK.out⟩
      | false =>
        go_wp2
        go_roundg (gk - 1)
        case measure => have := HJN.out; omega
        case rel => exact ⟨j + 1, by simp, by have := HJN.out; omega, HK.out⟩
    · have e1 : decide ((j : Int) + 2 ≤ (l.length : Int)) = false := decide_eq_false (by omega)
      have b1 : ¬ ((j : Int) + 2 ≤ (l.length : Int)) := by omega
      go_wp2
      go_ret
      exact ⟨false, rfl, HK.out⟩

set_option maxRecDepth 100000 in
set_option maxHeartbeats 1000000 in
theorem small7_any (l : List UInt8) (w : World) (hlen : l.length ≤ 1000000) :
    Calls Tryz.prog 68 #[str l] w fun e w' => e = .returned (str (l.map small)) ∧ Keeps No w w' := by
  obtain ⟨cap, W, hcv, hrow, K, hsz⟩ := run_bytes_of w l
  unfold str at hcv ⊢
  go_enter Tryz.func68, Tryz.ntmps68
  go_wp2
  clear hcv
  go_loopg [9] l.length (fun n s9 wr => ∃ (pre post : List UInt8), s9 = .int .i64 pre.length ∧ pre.length + post.length = l.length ∧ n = post.length ∧ l.map small = pre ++ post.map small ∧ Row wr w.heap.size (pre ++ post) ∧ Keeps (Up w.heap.size []) w wr)
  case atStart => exact ⟨[], l, rfl, by simp, rfl, rfl, hrow, K.of_no⟩
  case round =>
    obtain ⟨pre, post, rfl, hl, hn, hc, hr, kr⟩ := hrel
    have HC := Lib.hid hc
    have HN := Lib.hid hn
    have HL := Lib.hid hl
    have HR := Lib.hid hr
    have hp1 : pre.length ≤ l.length := by omega
    clear hc hn hl hr
    cases post with
    | nil =>
      have hpl : pre.length = l.length := by have := HL.out; simpa using this
      have e1 : decide (pre.length < l.length) = false := decide_eq_false (by omega)
      have e2 : decide ((pre.length : Int) < (l.length : Int)) = false := decide_eq_false (by omega)
      have hcan : l.map small = pre := by have := HC.out; simpa using this
      have hb := HR.out.bytes
      rw [List.append_nil] at hb
      have hst := run_string_of wr w.heap.size 0 cap pre l.length hpl.symm hb
      unfold str at hst
      have HPL := Lib.hid hcan
      clear hpl hcan hb
      go_wp2
      go_ret
      exact ⟨by rw [HPL.out]; rfl, (kr.down (Nat.le_refl _)).mono (fun _ _ h => by cases h)⟩
    | cons c r =>
      have hpl : pre.length < l.length := by have := HL.out; simp at this; omega
      have e1 : decide ((pre.length : Int) < (l.length : Int)) = true := decide_eq_true (by omega)
      have hi2 : (pre.length : Int) < (l.length : Int) := by omega
      have hx := HR.out.bytes.cell (i := pre.length) (by simp)
      rw [List.getElem_append_right (Nat.le_refl _)] at hx
      simp only [Nat.sub_self, List.getElem_cons_zero, Nat.zero_add] at hx
      unfold byt at hx
      have hfz : wr.frozen? ⟨w.heap.size, pre.length, none⟩ = false := HR.out.frozen (by simp)
      have hset := fun x : UInt8 => HR.out.set pre.length x
      have hm : c.toNat < 256 := c.toNat_lt
      have hnext : ∀ w2, Row w2 w.heap.size (pre ++ small c :: r) → Keeps (Up w.heap.size []) w w2 → ∃ (pre' post : List UInt8), Value.int .i64 ((pre.length : Int) + 1) = .int .i64 pre'.length ∧ pre'.length + post.length = l.length ∧ gk - 1 = post.length ∧ l.map small = pre' ++ post.map small ∧ Row w2 w.heap.size (pre' ++ post) ∧ Keeps (Up w.heap.size []) w w2 := fun w2 h1 h2 =>
        ⟨pre ++ [small c], r, by simp, by have := HL.out; simp at this ⊢; omega, by have := HN.out; simp at this; omega, by rw [HC.out]; simp, by simpa using h1, h2⟩
      have hmeas : gk - 1 < gk := by have := HN.out; simp at this; omega
      have hput : ∀ x, small c = x → Row (wr.setCell ⟨w.heap.size, pre.length, none⟩ (byt x)) w.heap.size (pre ++ small c :: r) := fun x h => by
        have := hset x
        rw [List.set_append_right _ _ (Nat.le_refl _), Nat.sub_self, List.set_cons_zero] at this
        rw [h]
        exact this
      have hsame : small c = c → Row wr w.heap.size (pre ++ small c :: r) := fun h => by rw [h]; exact HR.out
      have hkeep : ∀ v, Keeps (Up w.heap.size []) w (wr.setCell ⟨w.heap.size, pre.length, none⟩ v) := fun v => kr.setCell (.inr (Nat.le_refl _)) v
      have HNEXT := Lib.hid hnext
      have HPUT := Lib.hid hput
      have HSAME := Lib.hid hsame
      have hw1 : IntKind.i64.wrap ((pre.length : Int) + 1) = (pre.length : Int) + 1 := IntWalk.i64_in _ (by omega)
      clear hnext hput hsame hset hp1 HC HL HR
      by_cases h1 : 65 ≤ c.toNat
      · have a1 : decide ((65 : Int) ≤ (c.toNat : Int)) = true := decide_eq_true (by omega)
        by_cases h2 : c.toNat ≤ 90
        · have a2 : decide ((c.toNat : Int) ≤ 90) = true := decide_eq_true (by omega)
          have hcs : small c = c + 32 := by unfold small; rw [if_pos ⟨h1, h2⟩]
          have hv : byt (c + 32) = .int .u8 ((c.toNat : Int) + 32) := by
            unfold byt
            have : (c + 32).toNat = c.toNat + 32 := by
              rw [UInt8.toNat_add]
              show (c.toNat + 32) % 256 = _
              omega
            rw [this]
            congr 1
          have hwr : IntKind.u8.wrap ((c.toNat : Int) + 32) = (c.toNat : Int) + 32 := by unfold IntKind.wrap; simp [IntKind.bits, IntKind.signed]; omega
          have hp := HPUT.out _ hcs
          rw [hv] at hp
          have HP := Lib.hid hp
          clear hp hcs hv
          go_wp2
          go_roundg (gk - 1)
          case measure => exact hmeas
          case rel => exact HNEXT.out _ HP.out (hkeep _)
        · have a2 : decide ((c.toNat : Int) ≤ 90) = false := decide_eq_false (by omega)
          have hcs : small c = c := by unfold small; rw [if_neg (by omega)]
          have HP := Lib.hid (HSAME.out hcs)
          clear hcs
          go_wp2
          go_roundg (gk - 1)
          case measure => exact hmeas
          case rel => exact HNEXT.out _ HP.out kr
      · have a1 : decide ((65 : Int) ≤ (c.toNat : Int)) = false := decide_eq_false (by omega)
        have hcs : small c = c := by unfold small; rw [if_neg (by omega)]
        have HP := Lib.hid (HSAME.out hcs)
        clear hcs
        go_wp2
        go_roundg (gk - 1)
        case measure => exact hmeas
        case rel => exact HNEXT.out _ HP.out kr
end Go.Proofs.YtjbbapodcngnaaaGreatDoor
namespace Go.Proofs.YtjbbapodcngnaaaGreatDoor
open Go.RowKit Hdr

def HrPost (x : Hd) (w : World) (e : Ending) (w' : World) : Prop := ∃ b : Bool, e = .returned (.bool b) ∧ (b = true → HeadOk x) ∧ Keeps No w w'

set_option maxRecDepth 100000 in
set_option maxHeartbeats 4000000 in
theorem headRight_any (n v : List UInt8) (w : World) (hnm : n.length ≤ maxLen) (hvm : v.length ≤ maxLen) :
    Calls Tryz.prog 62 #[.agg #[str n, str v]] w (HrPost (n, v) w) := by
  unfold maxLen at hnm hvm
  have hB := Blk.new w [str n, str v] 127
  have KA : Keeps No w (w.alloc (.cells #[str n, str v] 127)) := (Keeps.refl No w).alloc _
  have hln := str_len n
  have hlv := str_len v
  have hsz : (w.alloc (.cells #[str n, str v] 127)).heap.size = w.heap.size + 1 := by simp
  have HKA := Lib.hid KA
  clear KA
  by_cases h1 : n = []
  · have e1 : (n == []) = true := by rw [h1]; rfl
    have e2 : n.isEmpty = true := by rw [h1]; rfl
    clear h1
    go_enter Tryz.func62, Tryz.ntmps62
    go_wp2
    go_ret
    exact ⟨false, rfl, (fun h => by cases h), HKA.out⟩
  have e1 : (n == []) = false := beq_eq_false_iff_ne.2 h1
  have e2 : n.isEmpty = false := by cases n; exact absurd rfl h1; rfl
  have HN1 := Lib.hid h1
  clear h1
  by_cases h2 : 20 < n.length
  · have e3 : decide ((20 : Int) < (n.length : Int)) = true := decide_eq_true (by omega)
    go_enter Tryz.func62, Tryz.ntmps62
    go_wp2
    go_ret
    exact ⟨false, rfl, (fun h => by cases h), HKA.out⟩
  have e3 : decide ((20 : Int) < (n.length : Int)) = false := decide_eq_false (by omega)
  have hn20 : n.length ≤ 20 := by omega
  clear h2
  by_cases h3 : v = []
  · have e4 : (v == []) = true := by rw [h3]; rfl
    have e5 : v.isEmpty = true := by rw [h3]; rfl
    clear h3
    go_enter Tryz.func62, Tryz.ntmps62
    go_wp2
    go_ret
    exact ⟨false, rfl, (fun h => by cases h), HKA.out⟩
  have e4 : (v == []) = false := beq_eq_false_iff_ne.2 h3
  have e5 : v.isEmpty = false := by cases v; exact absurd rfl h3; rfl
  have HV1 := Lib.hid h3
  clear h3
  have HSAY := Lib.hid (fun w => saying_any v w hvm)
  have HSM := Lib.hid (fun w => small7_any n w (by omega))
  go_enter Tryz.func62, Tryz.ntmps62
  go_wp2_with (fail)
  refine (HSAY.out _).mono ?_
  rintro e w1 ⟨b, rfl, hb, rfl⟩
  have HB := Lib.hid hB
  generalize (w.alloc (.cells #[str n, str v] 127)) = wA at *
  have c0 : wA.cell? ⟨w.heap.size, 0, none⟩ = some (str n) := HB.out.cell 0
  have c1 : wA.cell? ⟨w.heap.size, 1, none⟩ = some (str v) := HB.out.cell 1
  clear hB
  cases b with
  | false =>
    go_wp2
    go_ret
    exact ⟨false, rfl, (fun h => by cases h), HKA.out⟩
  | true =>
  have hv := hb (by trivial)
  have hv60 := hv.len
  have HV := Lib.hid hv
  clear hb hv
  go_upto_region 3 with (fail)
  go_wp2
  go_loopg [3, 4] n.length (fun q s3 s4 wr => ∃ (i : Nat) (f : Bool), s3 = .bool f ∧ s4 = .int .i64 i ∧ i + q = n.length ∧ nmScan true (n.take i) = some f ∧ wA = wr)
  case atStart => exact ⟨0, true, rfl, rfl, by omega, rfl, rfl⟩
  case round =>
    obtain ⟨i, f, rfl, rfl, hin, hsc, rfl⟩ := hrel
    have HIN := Lib.hid hin
    have HSC := Lib.hid hsc
    have hil : i ≤ n.length := by omega
    clear hin hsc
    by_cases hi : i < n.length
    · have hii : (i : Int) < (n.length : Int) := by omega
      have hlt : decide ((i : Int) < (n.length : Int)) = true := decide_eq_true hii
      have hx := str_get n i hi
      have htk : n.take (i + 1) = n.take i ++ [n[i]] := List.take_succ_eq_append_getElem hi
      generalize n[i] = c at *
      have hstep : nmScan true (n.take (i + 1)) = nmStep f c := by rw [htk, nmScan_snoc, HSC.out]; rfl
      have HST := Lib.hid hstep
      have hm : c.toNat < 256 := c.toNat_lt
      have hw1 : IntKind.i64.wrap ((i : Int) + 1) = (i : Int) + 1 := IntWalk.i64_in _ (by omega)
      clear htk hstep
      cases f with
      | true =>
        by_cases h45 : c.toNat = 45
        · have a0 : ((c.toNat : Int) == 45) = true := by rw [h45]; rfl
          have a1 : decide ((c.toNat : Int) < 65) = true := decide_eq_true (by omega)
          clear h45
          go_wp2
          go_ret
          exact ⟨false, rfl, (fun h => by cases h), HKA.out⟩
        · have a0 : ((c.toNat : Int) == 45) = false := beq_eq_false_iff_ne.2 (by omega)
          by_cases h65 : c.toNat < 65
          · have a1 : decide ((c.toNat : Int) < 65) = true := decide_eq_true (by omega)
            go_wp2
            go_ret
            exact ⟨false, rfl, (fun h => by cases h), HKA.out⟩
          · have a1 : decide ((c.toNat : Int) < 65) = false := decide_eq_false (by omega)
            by_cases h90 : 90 < c.toNat
            · have a2 : decide ((90 : Int) < (c.toNat : Int)) = true := decide_eq_true (by omega)
              go_wp2
              go_ret
              exact ⟨false, rfl, (fun h => by cases h), HKA.out⟩
            · have a2 : decide ((90 : Int) < (c.toNat : Int)) = false := decide_eq_false (by omega)
              have hs : nmStep true c = some false := by unfold nmStep; rw [if_neg (by simp), if_neg (by simp; omega)]
              have HS := Lib.hid hs
              clear h45 h65 h90 hs
              go_wp2
              go_roundg (gk - 1)
              case measure => have := HIN.out; omega
              case rel => exact ⟨i + 1, false, rfl, by simp, by have := HIN.out; omega, by rw [HST.out, HS.out], rfl⟩
      | false =>
        by_cases h45 : c.toNat = 45
        · have a0 : ((c.toNat : Int) == 45) = true := by rw [h45]; rfl
          have hs : nmStep false c = some true := by unfold nmStep; rw [if_pos ⟨UInt8.toNat.inj h45, rfl⟩]
          have HS := Lib.hid hs
          clear h45 hs
          go_wp2
          go_roundg (gk - 1)
          case measure => have := HIN.out; omega
          case rel => exact ⟨i + 1, true, rfl, by simp, by have := HIN.out; omega, by rw [HST.out, HS.out], rfl⟩
        · have a0 : ((c.toNat : Int) == 45) = false := beq_eq_false_iff_ne.2 (by omega)
          by_cases h97 : c.toNat < 97
          · have a1 : decide ((c.toNat : Int) < 97) = true := decide_eq_true (by omega)
            go_wp2
            go_ret
            exact ⟨false, rfl, (fun h => by cases h), HKA.out⟩
          · have a1 : decide ((c.toNat : Int) < 97) = false := decide_eq_false (by omega)
            by_cases h122 : 122 < c.toNat
            · have a2 : decide ((122 : Int) < (c.toNat : Int)) = true := decide_eq_true (by omega)
              go_wp2
              go_ret
              exact ⟨false, rfl, (fun h => by cases h), HKA.out⟩
            · have a2 : decide ((122 : Int) < (c.toNat : Int)) = false := decide_eq_false (by omega)
              have hs : nmStep false c = some false := by
                unfold nmStep
                rw [if_neg (by rintro ⟨rfl, _⟩; exact h45 rfl), if_neg (by simp; omega)]
              have HS := Lib.hid hs
              clear h45 h97 h122 hs
              go_wp2
              go_roundg (gk - 1)
              case measure => have := HIN.out; omega
              case rel => exact ⟨i + 1, false, rfl, by simp, by have := HIN.out; omega, by rw [HST.out, HS.out], rfl⟩
    · have hlt : decide ((i : Int) < (n.length : Int)) = false := decide_eq_false (by omega)
      have hlt2 : ¬ ((i : Int) < (n.length : Int)) := by omega
      have hall : nmScan true n = some f := by have := HSC.out; rwa [List.take_of_length_le (by omega)] at this
      have HALL := Lib.hid hall
      clear hall
      go_wp2
      go_loopg [6] v.length (fun q s6 wr => ∃ (i : Nat), s6 = .int .i64 i ∧ i + q = v.length ∧ wA = wr)
      case atStart => exact ⟨0, rfl, by omega, rfl⟩
      case round =>
        obtain ⟨j, rfl, hjn, rfl⟩ := hrel
        have HJN := Lib.hid hjn
        have hw1 : IntKind.i64.wrap ((j : Int) + 1) = (j : Int) + 1 := IntWalk.i64_in _ (by omega)
        clear hjn
        by_cases hj : j + 1 < v.length
        · have hjj : (j : Int) + 1 < (v.length : Int) := by omega
          have hjt : decide ((j : Int) + 1 < (v.length : Int)) = true := decide_eq_true hjj
          have hj0 : (j : Int) < (v.length : Int) := by omega
          have hx := str_get v j (by omega)
          have hy := str_get v (j + 1) hj
          have hts : ((j : Int) + 1).toNat = j + 1 := by omega
          generalize v[j] = c at *
          generalize v[j + 1] = d at *
          obtain ⟨t1, ht1⟩ : ∃ t, ((c.toNat : Int) == 61) = t := ⟨_, rfl⟩
          obtain ⟨t2, ht2⟩ : ∃ t, ((d.toNat : Int) == 63) = t := ⟨_, rfl⟩
          cases t1 with
          | false =>
            go_wp2
            go_roundg (gk - 1)
            case measure => have := HJN.out; omega
            case rel => exact ⟨j + 1, by simp, by have := HJN.out; omega, rfl⟩
          | true =>
            cases t2 with
            | false =>
              go_wp2
              go_roundg (gk - 1)
              case measure => have := HJN.out; omega
              case rel => exact ⟨j + 1, by simp, by have := HJN.out; omega, rfl⟩
            | true =>
              go_wp2
              go_ret
              exact ⟨false, rfl, (fun h => by cases h), HKA.out⟩
        · have hjj : ¬ ((j : Int) + 1 < (v.length : Int)) := by omega
          have hjt : decide ((j : Int) + 1 < (v.length : Int)) = false := decide_eq_false hjj
          have hll := str_len (n.map small)
          rw [List.length_map] at hll
          have hcut := str_cut (n.map small) 0 7
          go_wp2_with (fail)
          refine (HSM.out _).mono ?_
          rintro e w3 ⟨rfl, K3⟩
          have HK3 := Lib.hid (HKA.out.trans_no K3)
          clear K3
          by_cases h7 : n.length < 7
          · have e7 : decide ((n.length : Int) < 7) = true := decide_eq_true (by omega)
            have hne : (n.map small).take 7 ≠ contentL := fun e => by
              have := congrArg List.length e
              rw [List.length_take, List.length_map] at this
              simp [contentL] at this
              omega
            have HNE := Lib.hid hne
            clear hne
            go_wp2
            go_ret
            exact ⟨true, rfl, (fun _ => headOk_of HN1.out hn20 HV1.out HV.out HALL.out HNE.out), HK3.out⟩
          · have e7 : decide ((n.length : Int) < 7) = false := decide_eq_false (by omega)
            have h7b : (7 : Int) ≤ (n.length : Int) := by omega
            obtain ⟨x7, hx7⟩ : ∃ x7, x7 = (n.map small).take 7 := ⟨_, rfl⟩
            have hct : ((n.map small).drop 0).take (7 - 0) = x7 := hx7.symm
            rw [hct] at hcut
            obtain ⟨t, ht⟩ : ∃ t, (x7 == [99, 111, 110, 116, 101, 110, 116]) = t := ⟨_, rfl⟩
            have hte : t = false → (n.map small).take 7 ≠ contentL := fun h e => by
              rw [← hx7] at e
              rw [h, e] at ht
              revert ht
              decide
            have HT := Lib.hid hte
            clear hx7 hct hte
            cases t with
            | true =>
              go_wp2
              go_ret
              exact ⟨false, rfl, (fun h => by cases h), HK3.out⟩
            | false =>
              go_wp2
              go_ret
              exact ⟨true, rfl, (fun _ => headOk_of HN1.out hn20 HV1.out HV.out HALL.out (HT.out (by trivial))), HK3.out⟩
end Go.Proofs.YtjbbapodcngnaaaGreatDoor
namespace Go.Proofs.YtjbbapodcngnaaaGreatDoor
open Go.RowKit Hdr

def TrPost (l : List UInt8) (w : World) (e : Ending) (w' : World) : Prop := ∃ b : Bool, e = .returned (.bool b) ∧ (b = true → TextOk l) ∧ Keeps No w w'

set_option maxRecDepth 100000 in
set_option maxHeartbeats 4000000 in
theorem textRight_any (l : List UInt8) (w : World) (hlm : l.length ≤ maxLen) :
    Calls Tryz.prog 63 #[str l] w (TrPost l w) := by
  unfold maxLen at hlm
  have hls := str_len l
  go_enter Tryz.func63, Tryz.ntmps63
  go_wp2
  go_loopg [3, 4, 5] l.length (fun q s3 s4 s5 wr => ∃ k f i : Nat, s3 = .int .i64 k ∧ s4 = .int .i64 f ∧ s5 = .int .i64 i ∧ i + q = l.length ∧ k ≤ 13 ∧ TScan l k f i ∧ w = wr)
  case atStart => exact ⟨0, 0, 0, rfl, rfl, rfl, by omega, by omega, TScan.start l, rfl⟩
  case round =>
    obtain ⟨k, f, i, rfl, rfl, rfl, hin, hk, hsc, rfl⟩ := hrel
    have HIN := Lib.hid hin
    have HSC := Lib.hid hsc
    have hfi := hsc.le
    have hil : i ≤ l.length := by omega
    clear hin hsc
    have hend : ∀ b : Bool, (b = true → k ≤ 12 ∧ f = l.length) → TrPost l w (.returned (.bool b)) w := fun b hb => ⟨b, rfl, fun h => HSC.out.done (hb h).2 (hb h).1, Keeps.refl _ _⟩
    have HEND := Lib.hid hend
    clear hend
    by_cases hi : i < l.length
    · have hii : (i : Int) < (l.length : Int) := by omega
      have hlt : decide ((i : Int) < (l.length : Int)) = true := decide_eq_true hii
      by_cases hk12 : k ≤ 12
      · have hkt : decide ((k : Int) ≤ 12) = true := decide_eq_true (by omega)
        have hx := str_get l i hi
        have hgi : l[i]? = some l[i] := List.getElem?_eq_getElem hi
        have HGI := Lib.hid hgi
        have hchar := fun (h1 : 32 ≤ l[i].toNat) (h2 : l[i].toNat ≤ 126) => HSC.out.char hi ⟨h1, h2⟩
        have hline := fun (h13 : l[i] = 13) (hi2 : i + 1 < l.length) (h10 : l[i + 1] = 10) => HSC.out.line hi2 h13 h10
        have HCH := Lib.hid hchar
        have HLI := Lib.hid hline
        clear hchar hline hgi
        generalize l[i] = c at *
        have hm : c.toNat < 256 := c.toNat_lt
        have w1 : IntKind.i64.wrap ((i : Int) + 1) = (i : Int) + 1 := IntWalk.i64_in _ (by omega)
        by_cases h13 : c.toNat = 13
        · have a0 : ((c.toNat : Int) == 13) = true := by rw [h13]; rfl
          have hc13 : c = 13 := UInt8.toNat.inj h13
          have HC13 := Lib.hid hc13
          clear hc13 h13
          by_cases hi1 : i + 1 = l.length
          · have a1 : ((i : Int) + 1 == (l.length : Int)) = true := beq_iff_eq.2 (by omega)
            go_wp2
            go_ret
            exact HEND.out false (fun h => by cases h)
          · have a1 : ((i : Int) + 1 == (l.length : Int)) = false := beq_eq_false_iff_ne.2 (by omega)
            have hi2 : i + 1 < l.length := by omega
            have hi3 : (i : Int) + 1 < (l.length : Int) := by omega
            have hi4 : (0 : Int) ≤ (i : Int) + 1 := by omega
            have hts : ((i : Int) + 1).toNat = i + 1 := by omega
            have hy := str_get l (i + 1) hi2
            have HLI2 := Lib.hid (HLI.out HC13.out hi2)
            generalize l[i + 1] = d at *
            have hmd : d.toNat < 256 := d.toNat_lt
            by_cases h10 : d.toNat = 10
            · have a2 : ((d.toNat : Int) == 10) = true := by rw [h10]; rfl
              have a2b : ((d.toNat : Int) != 10) = false := by rw [h10]; rfl
              have HLI3 := Lib.hid (HLI2.out (UInt8.toNat.inj h10))
              have w2 : IntKind.i64.wrap ((i : Int) - (f : Int)) = (i : Int) - (f : Int) := IntWalk.i64_in _ (by omega)
              have w3 : IntKind.i64.wrap ((i : Int) + 2) = (i : Int) + 2 := IntWalk.i64_in _ (by omega)
              have w4 : IntKind.i64.wrap ((k : Int) + 1) = (k : Int) + 1 := IntWalk.i64_in _ (by omega)
              have w5 : IntKind.i64.wrap ((i : Int) + 1 + 1) = (i : Int) + 1 + 1 := IntWalk.i64_in _ (by omega)
              clear h10
              by_cases h60 : 60 < i - f
              · have a3 : decide ((60 : Int) < (i : Int) - (f : Int)) = true := decide_eq_true (by omega)
                go_wp2
                go_ret
                exact HEND.out false (fun h => by cases h)
              · have a3 : decide ((60 : Int) < (i : Int) - (f : Int)) = false := decide_eq_false (by omega)
                have HLI4 := Lib.hid (HLI3.out (by omega))
                have hnext : (i - f ≤ 1 ∨ (l.drop f).take 2 ≠ [45, 45]) → ∃ k' f' i' : Nat, Value.int .i64 ((k : Int) + 1) = .int .i64 k' ∧ Value.int .i64 ((i : Int) + 2) = .int .i64 f' ∧ Value.int .i64 ((i : Int) + 1 + 1) = .int .i64 i' ∧ i' + (gk - 2) = l.length ∧ k' ≤ 13 ∧ TScan l k' f' i' ∧ w = w := fun h =>
                  ⟨k + 1, i + 2, i + 2, by simp, by simp, by congr 1, by have := HIN.out; omega, by omega, HLI4.out h, rfl⟩
                have HNX := Lib.hid hnext
                clear hnext h60
                by_cases h1 : 1 < i - f
                · have a4 : decide ((1 : Int) < (i : Int) - (f : Int)) = true := decide_eq_true (by omega)
                  have b1 : (f : Int) ≤ (f : Int) + 2 := by omega
                  have b2 : (f : Int) + 2 ≤ (l.length : Int) := by omega
                  have b3 : (0 : Int) ≤ (f : Int) + 2 := by omega
                  have w6 : IntKind.i64.wrap ((f : Int) + 2) = (f : Int) + 2 := IntWalk.i64_in _ (by omega)
                  have hts2 : ((f : Int) + 2).toNat = f + 2 := by omega
                  have hcut := str_cut l f (f + 2)
                  rw [show f + 2 - f = 2 by omega] at hcut
                  obtain ⟨x2, hx2⟩ : ∃ x2, x2 = (l.drop f).take 2 := ⟨_, rfl⟩
                  rw [← hx2] at hcut
                  obtain ⟨t, ht⟩ : ∃ t, (x2 == [45, 45]) = t := ⟨_, rfl⟩
                  have hte : t = false → (l.drop f).take 2 ≠ [45, 45] := fun h e => by
                    rw [← hx2] at e
                    rw [h, e] at ht
                    cases ht
                  have HT := Lib.hid hte
                  clear hx2 hte h1
                  cases t with
                  | true =>
                    go_wp2
                    go_ret
                    exact HEND.out false (fun h => by cases h)
                  | false =>
                    go_wp2
                    go_roundg (gk - 2)
                    case measure => have := HIN.out; omega
                    case rel =>
                    obtain ⟨x1, x2, x3, h1, h2, h3, h4, h5, h6, -⟩ := HNX.out (.inr (HT.out (by trivial)))
                    exact ⟨x1, x2, x3, h1, h2, h3, h4, h5, h6, rfl⟩
                · have a4 : decide ((1 : Int) < (i : Int) - (f : Int)) = false := decide_eq_false (by omega)
                  have HLE := Lib.hid (show i - f ≤ 1 by omega)
                  clear h1
                  go_wp2
                  go_roundg (gk - 2)
                  case measure => have := HIN.out; omega
                  case rel =>
                    obtain ⟨x1, x2, x3, h1, h2, h3, h4, h5, h6, -⟩ := HNX.out (.inl HLE.out)
                    exact ⟨x1, x2, x3, h1, h2, h3, h4, h5, h6, rfl⟩
            · have a2 : ((d.toNat : Int) == 10) = false := beq_eq_false_iff_ne.2 (by omega)
              have a2b : ((d.toNat : Int) != 10) = true := by simp; omega
              go_wp2
              go_ret
              exact HEND.out false (fun h => by cases h)
        · have a0 : ((c.toNat : Int) == 13) = false := beq_eq_false_iff_ne.2 (by omega)
          clear h13
          by_cases h32 : c.toNat < 32
          · have a1 : decide ((c.toNat : Int) < 32) = true := decide_eq_true (by omega)
            go_wp2
            go_ret
            exact HEND.out false (fun h => by cases h)
          · have a1 : decide ((c.toNat : Int) < 32) = false := decide_eq_false (by omega)
            by_cases h126 : 126 < c.toNat
            · have a2 : decide ((126 : Int) < (c.toNat : Int)) = true := decide_eq_true (by omega)
              go_wp2
              go_ret
              exact HEND.out false (fun h => by cases h)
            · have a2 : decide ((126 : Int) < (c.toNat : Int)) = false := decide_eq_false (by omega)
              have HC := Lib.hid (HCH.out (by omega) (by omega))
              clear h32 h126
              go_wp2
              go_roundg (gk - 1)
              case measure => have := HIN.out; omega
              case rel => exact ⟨k, f, i + 1, rfl, rfl, by simp, by have := HIN.out; omega, hk, HC.out, rfl⟩
      · have hkt : decide ((k : Int) ≤ 12) = false := decide_eq_false (by omega)
        go_wp2
        go_ret
        exact HEND.out false (fun h => by cases h)
    · have hii : ¬ ((i : Int) < (l.length : Int)) := by omega
      have hlt : decide ((i : Int) < (l.length : Int)) = false := decide_eq_false hii
      by_cases hk12 : k ≤ 12
      · have hkt : decide ((k : Int) ≤ 12) = true := decide_eq_true (by omega)
        by_cases hf : f = l.length
        · have a1 : ((f : Int) == (l.length : Int)) = true := beq_iff_eq.2 (by omega)
          have HF := Lib.hid hf
          have HK := Lib.hid hk12
          clear hf
          go_wp2
          go_ret
          exact HEND.out true (fun _ => ⟨HK.out, HF.out⟩)
        · have a1 : ((f : Int) == (l.length : Int)) = false := beq_eq_false_iff_ne.2 (by omega)
          go_wp2
          go_ret
          exact HEND.out false (fun h => by cases h)
      · have hkt : decide ((k : Int) ≤ 12) = false := decide_eq_false (by omega)
        go_wp2
        go_ret
        exact HEND.out false (fun h => by cases h)
end Go.Proofs.YtjbbapodcngnaaaGreatDoor
