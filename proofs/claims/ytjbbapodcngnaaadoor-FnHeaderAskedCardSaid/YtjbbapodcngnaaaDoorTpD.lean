/- trim. -/
import Derived.Test.YtjbbapodcngnaaaDoorBldA
import Derived.Test.YtjbbapodcngnaaaDoorHdrB
namespace Go.Proofs.YtjbbapodcngnaaaDoor
open Go.RowKit Hdr

/-- What trim leaves. -/
def TrimPost (b : Nat) (l : List UInt8) (w : World) (e : Ending) (w' : World) : Prop :=
  ∃ o cap : Nat, e = .returned (.slice (some ⟨b, o, none⟩) (trim l).length cap) ∧ (trim l).length ≤ cap ∧ BytesAt w b o (trim l) ∧ w' = w

set_option maxRecDepth 100000 in
set_option maxHeartbeats 1000000 in
theorem trim_any (b o cap : Nat) (l : List UInt8) (len : Nat) (hn : len = l.length) (w : World) (h : BytesAt w b o l) (hcap : l.length ≤ cap) (hlen : l.length ≤ 1000000000000) :
    Calls Tryd.prog 49 #[.slice (some ⟨b, o, none⟩) len cap] w (TrimPost b l w) := by
  have H := Lib.hid h
  have HN := Lib.hid hn
  have hlen2 : len ≤ 1000000000000 := by omega
  have hcap2 : len ≤ cap := by omega
  clear h hn
  go_enter Tryd.func49, Tryd.ntmps49
  go_upto_block 0 with (fail)
  go_cut [3] (fun s3 wx => ∃ i : Nat, s3 = .int .i64 i ∧ i ≤ len ∧ l.drop i = trimL l ∧ w = wx)
  case first =>
    go_wp2
    go_loopg [3] len (fun n s3 wr => ∃ i : Nat, s3 = .int .i64 i ∧ i + n = len ∧ trimL (l.drop i) = trimL l ∧ w = wr)
    case atStart => exact ⟨0, rfl, by omega, by rw [List.drop_zero], rfl⟩
    case round =>
      obtain ⟨i, rfl, hin, ht, rfl⟩ := hrel
      have HT := Lib.hid ht
      have HIN := Lib.hid hin
      have hil0 : i ≤ len := by omega
      clear ht hin
      by_cases hi : i < len
      · have hil : i < l.length := by have := HN.out; omega
        have hx : w.cell? ⟨b, o + i, none⟩ = some (byt l[i]) := H.out.cell hil
        have e1 : decide ((i : Int) < (len : Int)) = true := decide_eq_true (by omega)
        have hi2 : (i : Int) < (len : Int) := by omega
        unfold byt at hx
        generalize hc : l[i] = c at hx
        have HC := Lib.hid hc
        clear hc
        go_wp2_with (fail)
        refine (isSpace_any c _).mono ?_
        rintro e w1 ⟨rfl, rfl⟩
        cases hs : sp c with
        | true =>
          have HS := Lib.hid hs
          clear hs
          go_wp2
          go_roundg (gk - 1)
          case measure => have := HIN.out; omega
          case rel => exact ⟨i + 1, by simp, by have := HIN.out; omega, (trimL_at hil HT.out).1 (by rw [HC.out]; exact HS.out), rfl⟩
        | false =>
          have HS := Lib.hid hs
          clear hs
          go_wp2
          go_meet
          exact ⟨i, rfl, hil0, (trimL_at hil HT.out).2 (by rw [HC.out]; exact HS.out), rfl⟩
      · have e1 : decide ((i : Int) < (len : Int)) = false := decide_eq_false (by omega)
        go_wp2
        go_meet
        exact ⟨i, rfl, hil0, trimL_end (by have := HN.out; omega) HT.out, rfl⟩
  case rest =>
    obtain ⟨i, rfl, hil0, ht, rfl⟩ := hcut
    have HT := Lib.hid ht
    clear ht
    go_upto_block 2 with (fail)
    go_cut [4] (fun s4 wx => ∃ n : Nat, s4 = .int .i64 n ∧ i ≤ n ∧ n ≤ len ∧ (l.take n).drop i = trim l ∧ w = wx)
    case first =>
      go_wp2
      go_loopg [4] (len - i) (fun k s4 wr => ∃ n : Nat, s4 = .int .i64 n ∧ i + k = n ∧ n ≤ len ∧ trimR ((l.take n).drop i) = trimR (l.drop i) ∧ w = wr)
      case atStart => exact ⟨len, rfl, by omega, Nat.le_refl _, by rw [List.take_of_length_le (by have := HN.out; omega)], rfl⟩
      case round =>
        obtain ⟨n, rfl, hin, hnl, hr, rfl⟩ := hrel
        have HR := Lib.hid hr
        have HIN := Lib.hid hin
        have hin0 : i ≤ n := by omega
        clear hr hin
        have hT : trimR (l.drop i) = trim l := by unfold trim; rw [HT.out]
        by_cases hi : i < n
        · have hil : n - 1 < l.length := by have := HN.out; omega
          have hx : w.cell? ⟨b, o + (n - 1), none⟩ = some (byt l[n - 1]) := H.out.cell hil
          have e1 : decide ((i : Int) < (n : Int)) = true := decide_eq_true (by omega)
          have hi2 : (i : Int) < (n : Int) := by omega
          have hi3 : (n : Int) - 1 = ((n - 1 : Nat) : Int) := by omega
          have hi4 : IntKind.i64.wrap ((n : Int) - 1) = ((n - 1 : Nat) : Int) := by rw [IntKind.wrap_i64]; omega
          unfold byt at hx
          generalize hc : l[n - 1] = c at hx
          have HC := Lib.hid hc
          clear hc
          go_wp2_with (fail)
          refine (isSpace_any c _).mono ?_
          rintro e w1 ⟨rfl, rfl⟩
          cases hs : sp c with
          | true =>
            have HS := Lib.hid hs
            clear hs
            go_wp2
            go_roundg (gk - 1)
            case measure => have := HIN.out; omega
            case rel => exact ⟨n - 1, by simp, by have := HIN.out; omega, by omega, (trimR_at hi (by have := HN.out; omega) HR.out).1 (by rw [HC.out]; exact HS.out), rfl⟩
          | false =>
            have HS := Lib.hid hs
            clear hs
            go_wp2
            go_meet
            exact ⟨n, rfl, hin0, hnl, ((trimR_at hi (by have := HN.out; omega) HR.out).2 (by rw [HC.out]; exact HS.out)).trans hT, rfl⟩
        · have e1 : decide ((i : Int) < (n : Int)) = false := decide_eq_false (by omega)
          have hni : n = i := by omega
          go_wp2
          go_meet
          exact ⟨n, rfl, hin0, hnl, by rw [← hT, ← HR.out, hni, List.drop_eq_nil_of_le (by simp; omega)]; rfl, rfl⟩
    case rest =>
      obtain ⟨n, rfl, hin, hnl, hr, rfl⟩ := hcut
      have HR := Lib.hid hr
      clear hr
      have h0 : (0 : Int) ≤ (i : Int) := by omega
      have h1 : (i : Int) ≤ (n : Int) := by omega
      have h2 : (n : Int) ≤ (cap : Int) := by omega
      go_wp2
      go_ret
      have hl : n - i = (trim l).length := by rw [← HR.out]; have := HN.out; simp; omega
      refine ⟨cutAt o i cap 1, cap - i, ?_, by omega, ?_, rfl⟩
      · rw [← hl]; rfl
      · have := H.out.cut i (n - i) (cap := cap) hcap
        rwa [← List.drop_take, HR.out] at this
end Go.Proofs.YtjbbapodcngnaaaDoor
