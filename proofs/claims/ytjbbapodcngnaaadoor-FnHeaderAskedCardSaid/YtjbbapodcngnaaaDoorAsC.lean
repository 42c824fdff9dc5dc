/- spec: Token9. -/
import Derived.Test.YtjbbapodcngnaaaDoorSpI
namespace Go.Proofs.YtjbbapodcngnaaaDoor
open Go.RowKit Hdr

def tok9 (l : List UInt8) : Bool := l.all tok && !l.isEmpty && decide (l.length ≤ 40)

set_option maxRecDepth 100000 in
set_option maxHeartbeats 1000000 in
theorem token9_any (l : List UInt8) (w : World) (hlen : l.length ≤ 10000000000) :
    Calls Tryd.prog 5 #[str l] w fun e w' => e = .returned (.bool (tok9 l)) ∧ w' = w := by
  have hls := str_len l
  generalize ht9 : tok9 l = t9
  have HT9 := Lib.hid ht9
  clear ht9
  go_enter Tryd.func5, Tryd.ntmps5
  go_wp2
  go_loopg [7] l.length (fun n s7 wr => ∃ j : Nat, s7 = .int .i64 (j : Int) ∧ j + n = l.length ∧ (l.take j).all tok = true ∧ w = wr)
  case atStart => exact ⟨0, rfl, by omega, rfl, rfl⟩
  case round =>
    obtain ⟨j, rfl, hjn, hal, rfl⟩ := hrel
    have HJN := Lib.hid hjn
    have HAL := Lib.hid hal
    have hjl : j ≤ l.length := by omega
    clear hjn hal
    by_cases hj : j < l.length
    · have hx := str_get l j hj
      have htk : l.take (j + 1) = l.take j ++ [l[j]] := List.take_succ_eq_append_getElem hj
      have hmem : l[j] ∈ l := List.getElem_mem _
      generalize l[j] = c at *
      have HTK := Lib.hid htk
      have HMEM := Lib.hid hmem
      have hjj : (j : Int) < (l.length : Int) := by omega
      have hm : c.toNat < 256 := c.toNat_lt
      clear htk hmem
      go_upto_region 5 with (fail)
      go_cut [39] (fun s39 wx => s39 = .bool (!tok c) ∧ w = wx)
      case first =>
        obtain ⟨sg, hsg⟩ : ∃ sg : Bool, sg = decide (signN c.toNat) := ⟨_, rfl⟩
        have hby : ∀ W : World, Calls Tryd.prog 11 #[.string ⟨#[33, 35, 36, 37, 38, 39, 42, 43, 45, 46, 94, 95, 96, 124, 126]⟩, .int .u8 c.toNat] W fun e w' => e = .returned (.bool sg) ∧ w' = W := fun W => by
          rw [hsg, ← sign_contains]
          exact hasByte9_any [33, 35, 36, 37, 38, 39, 42, 43, 45, 46, 94, 95, 96, 124, 126] c W (by decide)
        have htok : tok c = (sg || decide (48 ≤ c.toNat ∧ c.toNat ≤ 57) || decide (97 ≤ c.toNat ∧ c.toNat ≤ 122) || decide (65 ≤ c.toNat ∧ c.toNat ≤ 90)) := by
          rw [hsg]
          have h0 : tok c = true ↔ tokN c.toNat := by unfold tok; exact decide_eq_true_iff
          rw [Bool.eq_iff_iff, h0]
          simp only [Bool.or_eq_true, decide_eq_true_eq]
          unfold tokN
          constructor
          · rintro (h | h | h | h)
            · exact .inl (.inl (.inl h))
            · exact .inl (.inl (.inr h))
            · exact .inl (.inr h)
            · exact .inr h
          · rintro (((h | h) | h) | h)
            · exact .inl h
            · exact .inr (.inl h)
            · exact .inr (.inr (.inl h))
            · exact .inr (.inr (.inr h))
        have hT : (48 ≤ c.toNat ∧ c.toNat ≤ 57) ∨ (97 ≤ c.toNat ∧ c.toNat ≤ 122) ∨ (65 ≤ c.toNat ∧ c.toNat ≤ 90) → tok c = true := fun h => by
          rw [htok]
          rcases h with h | h | h <;> simp [h]
        have hF : ¬ (48 ≤ c.toNat ∧ c.toNat ≤ 57) → ¬ (97 ≤ c.toNat ∧ c.toNat ≤ 122) → ¬ (65 ≤ c.toNat ∧ c.toNat ≤ 90) → tok c = sg := fun h1 h2 h3 => by
          rw [htok, decide_eq_false h1, decide_eq_false h2, decide_eq_false h3]
          simp
        have HT := Lib.hid hT
        have HF := Lib.hid hF
        clear hsg htok hT hF
        have hr : c.toNat < 48 ∨ (48 ≤ c.toNat ∧ c.toNat ≤ 57) ∨ (58 ≤ c.toNat ∧ c.toNat ≤ 64) ∨ (65 ≤ c.toNat ∧ c.toNat ≤ 90) ∨ (91 ≤ c.toNat ∧ c.toNat ≤ 96) ∨ (97 ≤ c.toNat ∧ c.toNat ≤ 122) ∨ 123 ≤ c.toNat := by omega
        rcases hr with hq | hq | hq | hq | hq | hq | hq
        · have HK := Lib.hid (HF.out (by omega) (by omega) (by omega))
          have a1 : decide ((c.toNat : Int) < 97) = true := decide_eq_true (by omega)
          have a2 : decide ((122 : Int) < (c.toNat : Int)) = false := decide_eq_false (by omega)
          have a3 : decide ((c.toNat : Int) < 65) = true := decide_eq_true (by omega)
          have a4 : decide ((90 : Int) < (c.toNat : Int)) = false := decide_eq_false (by omega)
          have a5 : decide ((c.toNat : Int) < 48) = true := decide_eq_true (by omega)
          have a6 : decide ((57 : Int) < (c.toNat : Int)) = false := decide_eq_false (by omega)
          clear hq
          go_wp2_with (go_at_call 11; refine (hby _).mono ?_; rintro e w ⟨rfl, rfl⟩)
          go_meet
          exact ⟨by rw [HK.out], rfl⟩
        · have HK := Lib.hid (HT.out (.inl hq))
          have a1 : decide ((c.toNat : Int) < 97) = true := decide_eq_true (by omega)
          have a2 : decide ((122 : Int) < (c.toNat : Int)) = false := decide_eq_false (by omega)
          have a3 : decide ((c.toNat : Int) < 65) = true := decide_eq_true (by omega)
          have a4 : decide ((90 : Int) < (c.toNat : Int)) = false := decide_eq_false (by omega)
          have a5 : decide ((c.toNat : Int) < 48) = false := decide_eq_false (by omega)
          have a6 : decide ((57 : Int) < (c.toNat : Int)) = false := decide_eq_false (by omega)
          clear hq
          go_wp2_with (go_at_call 11; refine (hby _).mono ?_; rintro e w ⟨rfl, rfl⟩)
          go_meet
          exact ⟨by rw [HK.out]; rfl, rfl⟩
        · have HK := Lib.hid (HF.out (by omega) (by omega) (by omega))
          have a1 : decide ((c.toNat : Int) < 97) = true := decide_eq_true (by omega)
          have a2 : decide ((122 : Int) < (c.toNat : Int)) = false := decide_eq_false (by omega)
          have a3 : decide ((c.toNat : Int) < 65) = true := decide_eq_true (by omega)
          have a4 : decide ((90 : Int) < (c.toNat : Int)) = false := decide_eq_false (by omega)
          have a5 : decide ((c.toNat : Int) < 48) = false := decide_eq_false (by omega)
          have a6 : decide ((57 : Int) < (c.toNat : Int)) = true := decide_eq_true (by omega)
          clear hq
          go_wp2_with (go_at_call 11; refine (hby _).mono ?_; rintro e w ⟨rfl, rfl⟩)
          go_meet
          exact ⟨by rw [HK.out], rfl⟩
        · have HK := Lib.hid (HT.out (.inr (.inr hq)))
          have a1 : decide ((c.toNat : Int) < 97) = true := decide_eq_true (by omega)
          have a2 : decide ((122 : Int) < (c.toNat : Int)) = false := decide_eq_false (by omega)
          have a3 : decide ((c.toNat : Int) < 65) = false := decide_eq_false (by omega)
          have a4 : decide ((90 : Int) < (c.toNat : Int)) = false := decide_eq_false (by omega)
          have a5 : decide ((c.toNat : Int) < 48) = false := decide_eq_false (by omega)
          have a6 : decide ((57 : Int) < (c.toNat : Int)) = true := decide_eq_true (by omega)
          clear hq
          go_wp2_with (go_at_call 11; refine (hby _).mono ?_; rintro e w ⟨rfl, rfl⟩)
          go_meet
          exact ⟨by rw [HK.out]; rfl, rfl⟩
        · have HK := Lib.hid (HF.out (by omega) (by omega) (by omega))
          have a1 : decide ((c.toNat : Int) < 97) = true := decide_eq_true (by omega)
          have a2 : decide ((122 : Int) < (c.toNat : Int)) = false := decide_eq_false (by omega)
          have a3 : decide ((c.toNat : Int) < 65) = false := decide_eq_false (by omega)
          have a4 : decide ((90 : Int) < (c.toNat : Int)) = true := decide_eq_true (by omega)
          have a5 : decide ((c.toNat : Int) < 48) = false := decide_eq_false (by omega)
          have a6 : decide ((57 : Int) < (c.toNat : Int)) = true := decide_eq_true (by omega)
          clear hq
          go_wp2_with (go_at_call 11; refine (hby _).mono ?_; rintro e w ⟨rfl, rfl⟩)
          go_meet
          exact ⟨by rw [HK.out], rfl⟩
        · have HK := Lib.hid (HT.out (.inr (.inl hq)))
          have a1 : decide ((c.toNat : Int) < 97) = false := decide_eq_false (by omega)
          have a2 : decide ((122 : Int) < (c.toNat : Int)) = false := decide_eq_false (by omega)
          have a3 : decide ((c.toNat : Int) < 65) = false := decide_eq_false (by omega)
          have a4 : decide ((90 : Int) < (c.toNat : Int)) = true := decide_eq_true (by omega)
          have a5 : decide ((c.toNat : Int) < 48) = false := decide_eq_false (by omega)
          have a6 : decide ((57 : Int) < (c.toNat : Int)) = true := decide_eq_true (by omega)
          clear hq
          go_wp2_with (go_at_call 11; refine (hby _).mono ?_; rintro e w ⟨rfl, rfl⟩)
          go_meet
          exact ⟨by rw [HK.out]; rfl, rfl⟩
        · have HK := Lib.hid (HF.out (by omega) (by omega) (by omega))
          have a1 : decide ((c.toNat : Int) < 97) = false := decide_eq_false (by omega)
          have a2 : decide ((122 : Int) < (c.toNat : Int)) = true := decide_eq_true (by omega)
          have a3 : decide ((c.toNat : Int) < 65) = false := decide_eq_false (by omega)
          have a4 : decide ((90 : Int) < (c.toNat : Int)) = true := decide_eq_true (by omega)
          have a5 : decide ((c.toNat : Int) < 48) = false := decide_eq_false (by omega)
          have a6 : decide ((57 : Int) < (c.toNat : Int)) = true := decide_eq_true (by omega)
          clear hq
          go_wp2_with (go_at_call 11; refine (hby _).mono ?_; rintro e w ⟨rfl, rfl⟩)
          go_meet
          exact ⟨by rw [HK.out], rfl⟩
      case rest =>
        obtain ⟨rfl, rfl⟩ := hcut
        generalize htc : tok c = tc at *
        have HTC := Lib.hid htc
        clear htc
        cases tc with
        | true =>
          go_wp2
          go_roundg (gk - 1)
          case measure => have := HJN.out; omega
          case rel =>
            refine ⟨j + 1, by simp, by have := HJN.out; omega, ?_, rfl⟩
            rw [HTK.out, List.all_append, HAL.out]
            simp [HTC.out]
        | false =>
          have hall : t9 = false := by
            rw [← HT9.out]
            unfold tok9
            have : l.all tok = false := by
              cases h : l.all tok with
              | false => rfl
              | true =>
                rw [List.all_eq_true] at h
                have := h c HMEM.out
                rw [HTC.out] at this
                cases this
            rw [this]
            rfl
          have HALL := Lib.hid hall
          clear hall
          go_wp2
          go_ret
          exact ⟨by rw [HALL.out]; rfl, rfl⟩
    · have hjl2 : j = l.length := by omega
      have hall : l.all tok = true := by have := HAL.out; rwa [hjl2, List.take_length] at this
      have e1 : decide (j < l.length) = false := decide_eq_false hj
      have e2 : decide ((j : Int) < (l.length : Int)) = false := decide_eq_false (by omega)
      have ht : t9 = (!l.isEmpty && decide (l.length ≤ 40)) := by
        rw [← HT9.out]
        unfold tok9
        rw [hall]
        simp
      have HTT := Lib.hid ht
      clear hall hjl2 ht
      by_cases hl0 : l = []
      · subst hl0
        go_wp2
        go_ret
        exact ⟨by rw [HTT.out]; rfl, rfl⟩
      · have hem : l.isEmpty = false := by cases l with | nil => exact absurd rfl hl0 | cons _ _ => rfl
        by_cases hl4 : l.length ≤ 40
        · have b1 : decide (l.length ≤ 40) = true := decide_eq_true hl4
          have b2 : decide ((l.length : Int) ≤ 40) = true := decide_eq_true (by omega)
          have HL0 := Lib.hid hl0
          clear hl0
          go_wp2
          go_ret
          exact ⟨by rw [HTT.out, hem, b1]; rfl, rfl⟩
        · have b1 : decide (l.length ≤ 40) = false := decide_eq_false hl4
          have b2 : decide ((l.length : Int) ≤ 40) = false := decide_eq_false (by omega)
          have HL0 := Lib.hid hl0
          clear hl0
          go_wp2
          go_ret
          exact ⟨by rw [HTT.out, hem, b1]; rfl, rfl⟩
end Go.Proofs.YtjbbapodcngnaaaDoor
