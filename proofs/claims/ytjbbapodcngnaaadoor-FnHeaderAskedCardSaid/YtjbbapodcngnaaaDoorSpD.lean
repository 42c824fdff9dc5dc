/- spec: key9. -/
import Derived.Test.YtjbbapodcngnaaaDoorSpC
namespace Go.Proofs.YtjbbapodcngnaaaDoor
open Go.RowKit Hdr

/-- What key9 leaves. -/
def K9Post (t : List UInt8) (w : World) (e : Ending) (w' : World) : Prop :=
  e = .returned (.tuple #[str (if t.all keyb = true then canon t else []), .bool (t.all keyb)]) ∧ Keeps No w w'

set_option maxRecDepth 100000 in
set_option maxHeartbeats 2000000 in
theorem key9_any (l : List UInt8) (w : World) (hlen : l.length ≤ 1000000000) :
    Calls Tryd.prog 29 #[str l] w (K9Post (trim l) w) := by
  have htl := trim_len l
  have H9 := trim9_any l w hlen
  unfold T9Post at H9
  generalize trim l = t at *
  have H := Lib.hid H9
  clear H9
  go_enter Tryd.func29, Tryd.ntmps29
  go_wp2_with (fail)
  refine H.out.mono ?_
  rintro e w1 ⟨rfl, rfl⟩
  go_wp2
  go_loopg [9] t.length (fun n s9 wr => ∃ j : Nat, s9 = .int .i64 j ∧ j + n = t.length ∧ (t.take j).all keyb = true ∧ w1 = wr)
  case atStart => exact ⟨0, rfl, by omega, rfl, rfl⟩
  case round =>
    obtain ⟨j, rfl, hjn, hjc, rfl⟩ := hrel
    have HJC := Lib.hid hjc
    have HJN := Lib.hid hjn
    have hjl : j ≤ t.length := by omega
    clear hjc hjn
    by_cases hj : j < t.length
    · have hx := str_get t j hj
      have htk : t.take (j + 1) = t.take j ++ [t[j]] := List.take_succ_eq_append_getElem hj
      have hmem : t[j] ∈ t := List.getElem_mem _
      generalize t[j] = x at *
      have HTK := Lib.hid htk
      have hjj : (j : Int) < (t.length : Int) := by omega
      have hm : x.toNat < 256 := x.toNat_lt
      clear htk
      by_cases hk : keyN x.toNat
      · have a1 : decide ((x.toNat : Int) ≤ 32) = false := decide_eq_false (by have := hk.1; omega)
        have a2 : decide ((126 : Int) < (x.toNat : Int)) = false := decide_eq_false (by have := hk.2.1; omega)
        have a3 : ((x.toNat : Int) == 58) = false := by have := hk.2.2; simp; omega
        have HK := Lib.hid hk
        clear hk
        go_wp2
        go_roundg (gk - 1)
        case measure => have := HJN.out; omega
        case rel =>
          refine ⟨j + 1, by simp, by have := HJN.out; omega, ?_, rfl⟩
          rw [HTK.out, List.all_append, HJC.out]
          simp [keyb, HK.out]
      · have hall : t.all keyb = false := by
          cases h : t.all keyb with
          | false => rfl
          | true =>
            rw [List.all_eq_true] at h
            exact absurd (of_decide_eq_true (h x hmem)) hk
        have HALL := Lib.hid hall
        have hc : x.toNat ≤ 32 ∨ (33 ≤ x.toNat ∧ 126 < x.toNat) ∨ (33 ≤ x.toNat ∧ x.toNat ≤ 126 ∧ x.toNat = 58) := by unfold keyN at hk; omega
        clear hk hall
        rcases hc with hq | hq | hq
        · have a1 : decide ((x.toNat : Int) ≤ 32) = true := decide_eq_true (by omega)
          clear hq
          go_wp2
          go_ret2
          exact ⟨by rw [HALL.out]; rfl, Keeps.refl _ _⟩
        · have a1 : decide ((x.toNat : Int) ≤ 32) = false := decide_eq_false (by omega)
          have a2 : decide ((126 : Int) < (x.toNat : Int)) = true := decide_eq_true (by omega)
          clear hq
          go_wp2
          go_ret2
          exact ⟨by rw [HALL.out]; rfl, Keeps.refl _ _⟩
        · have a1 : decide ((x.toNat : Int) ≤ 32) = false := decide_eq_false (by omega)
          have a2 : decide ((126 : Int) < (x.toNat : Int)) = false := decide_eq_false (by omega)
          have a3 : ((x.toNat : Int) == 58) = true := by rw [hq.2.2]; rfl
          clear hq
          go_wp2
          go_ret2
          exact ⟨by rw [HALL.out]; rfl, Keeps.refl _ _⟩
    · have hjl2 : j = t.length := by omega
      have hall : t.all keyb = true := by have := HJC.out; rwa [hjl2, List.take_length] at this
      have e1 : decide (j < t.length) = false := decide_eq_false hj
      have HALL := Lib.hid hall
      clear hall hjl2
      go_wp2_with (fail)
      refine (canonical9_any t _ (by omega)).mono ?_
      rintro e w2 ⟨rfl, K⟩
      go_wp2
      go_ret2
      exact ⟨by rw [HALL.out]; rfl, K⟩
end Go.Proofs.YtjbbapodcngnaaaDoor
