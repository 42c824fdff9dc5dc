/- spec: Canonical9. -/
import Derived.Test.YtjbbapodcngnaaaDoorSpB
namespace Go.Proofs.YtjbbapodcngnaaaDoor
open Go.RowKit Hdr

set_option maxRecDepth 100000 in
theorem bits_up : ∀ n : Fin 256, (97 ≤ n.val ∧ n.val ≤ 122 → bits .andNot .u8 (n.val : Int) 32 = (n.val : Int) - 97 + 65 ∧ bits .or .u8 (n.val : Int) 32 = (n.val : Int)) ∧ (65 ≤ n.val ∧ n.val ≤ 90 → bits .andNot .u8 (n.val : Int) 32 = (n.val : Int) ∧ bits .or .u8 (n.val : Int) 32 = (n.val : Int) - 65 + 97) := by decide
set_option maxRecDepth 100000 in
theorem sign_contains (c : UInt8) : ([33, 35, 36, 37, 38, 39, 42, 43, 45, 46, 94, 95, 96, 124, 126] : List UInt8).contains c = decide (signN c.toNat) := by
  have h : ∀ n : Fin 256, ([33, 35, 36, 37, 38, 39, 42, 43, 45, 46, 94, 95, 96, 124, 126] : List UInt8).contains (UInt8.ofNat n.val) = decide (signN n.val) := by decide
  have h2 := h ⟨c.toNat, c.toNat_lt⟩
  simp only [UInt8.ofNat_toNat] at h2
  exact h2

set_option maxRecDepth 100000 in
set_option maxHeartbeats 2000000 in
theorem canonical9_any (l : List UInt8) (w : World) (hlen : l.length ≤ 1000000000) :
    Calls Tryd.prog 7 #[str l] w (CanPost l w) := by
  obtain ⟨cap, W, hcv, hrow, K, hsz⟩ := run_bytes_of w l
  unfold str at hcv ⊢
  go_enter Tryd.func7, Tryd.ntmps7
  go_wp2
  clear hcv
  go_loopg [4, 12] l.length (fun n s4 s12 wr => ∃ (pre post : List UInt8) (up : Bool), s4 = .bool up ∧ s12 = .int .i64 pre.length ∧ pre.length + post.length = l.length ∧ n = post.length ∧ post = l.drop pre.length ∧ (l.take pre.length).all tok = true ∧ canonGo true l = pre ++ canonGo up post ∧
    Row wr w.heap.size (pre ++ post) ∧ Keeps (Up w.heap.size []) w wr)
  case atStart => exact ⟨[], l, true, rfl, rfl, by simp, rfl, rfl, rfl, rfl, hrow, K.of_no⟩
  case round =>
    obtain ⟨pre, post, up, rfl, rfl, hl, hn, hpo, hal, hc, hr, kr⟩ := hrel
    have HC := Lib.hid hc
    have HA := Lib.hid hal
    have HN := Lib.hid hn
    have HP := Lib.hid hpo
    have HL := Lib.hid hl
    have HR := Lib.hid hr
    have hp1 : pre.length ≤ l.length := by omega
    clear hc hal hn hpo hl hr
    cases post with
    | nil =>
      have hpl : pre.length = l.length := by have := HL.out; simpa using this
      have e1 : decide (pre.length < l.length) = false := decide_eq_false (by omega)
      have hcan : pre = canon l := by
        have h1 := HA.out
        have h2 := HC.out
        rw [hpl, List.take_length] at h1
        rw [show canonGo up [] = [] from rfl, List.append_nil] at h2
        unfold canon
        rw [if_pos h1, h2]
      have hb := HR.out.bytes
      rw [List.append_nil] at hb
      have hst := run_string_of wr w.heap.size 0 cap pre l.length hpl.symm hb
      unfold str at hst
      have HPL := Lib.hid hcan
      clear hpl hcan hb
      go_wp2
      go_ret
      exact ⟨by rw [← HPL.out]; rfl, (kr.down (Nat.le_refl _)).mono (fun _ _ h => by cases h)⟩
    | cons c r =>
      have hpl : pre.length < l.length := by have := HL.out; simp at this; omega
      have e1 : decide ((pre.length : Int) < (l.length : Int)) = true := decide_eq_true (by omega)
      have hi2 : (pre.length : Int) < (l.length : Int) := by omega
      have hx := HR.out.bytes.cell (i := pre.length) (by simp)
      rw [List.getElem_append_right (Nat.le_refl _)] at hx
      simp only [Nat.sub_self, List.getElem_cons_zero, Nat.zero_add] at hx
      unfold byt at hx
      have hfz : wr.frozen? ⟨w.heap.size, pre.length, none⟩ = false := HR.out.frozen (by simp)
      have hset := fun x : UInt8 => HR.out.set pre.length x
      have htk : l.take (pre.length + 1) = l.take pre.length ++ [c] := by
        have h1 := HP.out
        rw [List.take_succ_eq_append_getElem hpl]
        congr 2
        rw [List.drop_eq_getElem_cons hpl] at h1
        injection h1 with h1 _
        exact h1.symm
      have HTK := Lib.hid htk
      clear htk
      have hm : c.toNat < 256 := c.toNat_lt
      have hlen2 : pre.length ≤ 1000000000 := by omega
      have hnext : tok c = true → ∀ w2, Row w2 w.heap.size (pre ++ cased up c :: r) → Keeps (Up w.heap.size []) w w2 → ∃ (pre' post : List UInt8) (up' : Bool), Value.bool ((c.toNat : Int) == 45) = .bool up' ∧ Value.int .i64 ((pre.length : Int) + 1) = .int .i64 pre'.length ∧ pre'.length + post.length = l.length ∧ gk - 1 = post.length ∧ post = l.drop pre'.length ∧
          (l.take pre'.length).all tok = true ∧ canonGo true l = pre' ++ canonGo up' post ∧ Row w2 w.heap.size (pre' ++ post) ∧ Keeps (Up w.heap.size []) w w2 := by
        intro hT w2 h1 h2
        have hcc : ((c.toNat : Int) == 45) = (c == 45) := by
          rw [Bool.eq_iff_iff]
          simp only [beq_iff_eq]
          constructor
          · intro h; apply UInt8.toNat.inj; show c.toNat = 45; omega
          · rintro rfl; rfl
        refine ⟨pre ++ [cased up c], r, c == 45, by rw [hcc], by simp, by have := HL.out; simp at this ⊢; omega, by have := HN.out; simp at this; omega, ?_, ?_, ?_, by simpa using h1, h2⟩
        · have h3 := HP.out
          rw [List.drop_eq_getElem_cons hpl] at h3
          injection h3 with _ h3
          simpa using h3
        · have h3 := HA.out
          simp only [List.length_append, List.length_cons, List.length_nil, Nat.zero_add]
          rw [HTK.out, List.all_append, h3]
          simp [hT]
        · rw [HC.out]
          simp [canonGo]
      have hmeas : gk - 1 < gk := by have := HN.out; simp at this; omega
      have hput : ∀ x, cased up c = x → Row (wr.setCell ⟨w.heap.size, pre.length, none⟩ (byt x)) w.heap.size (pre ++ cased up c :: r) := fun x h => by
        have := hset x
        rw [List.set_append_right _ _ (Nat.le_refl _), Nat.sub_self, List.set_cons_zero] at this
        rw [h]
        exact this
      have hsame : cased up c = c → Row wr w.heap.size (pre ++ cased up c :: r) := fun h => by rw [h]; exact HR.out
      have hkeep : ∀ v, Keeps (Up w.heap.size []) w (wr.setCell ⟨w.heap.size, pre.length, none⟩ v) := fun v => kr.setCell (.inr (Nat.le_refl _)) v
      have hbad : tok c = false → canon l = l := fun htok => by
        unfold canon
        rw [if_neg]
        intro h
        rw [List.all_eq_true] at h
        have h2 := h c (by rw [← List.take_append_drop pre.length l, ← HP.out]; simp)
        rw [htok] at h2
        cases h2
      have HBAD := Lib.hid hbad
      have HNEXT := Lib.hid hnext
      have HPUT := Lib.hid hput
      have HSAME := Lib.hid hsame
      clear hbad hnext hput hsame hset hp1 HA HC HP HL HTK HR
      obtain ⟨hb1, hb2⟩ := bits_up ⟨c.toNat, hm⟩
      simp only at hb1 hb2
      by_cases hlow : 97 ≤ c.toNat ∧ c.toNat ≤ 122
      · obtain ⟨hb3, hb4⟩ := hb1 hlow
        have htok : tok c = true := decide_eq_true (.inr (.inr (.inl hlow)))
        have a1 : decide ((97 : Int) ≤ (c.toNat : Int)) = true := decide_eq_true (by omega)
        have a2 : decide ((c.toNat : Int) ≤ 122) = true := decide_eq_true (by omega)
        have HB3 := Lib.hid hb3
        have HB4 := Lib.hid hb4
        have HTK := Lib.hid htok
        clear hb1 hb2 hb3 hb4 htok
        cases up with
        | true =>
          have hcs : cased true c = c - 97 + 65 := by unfold cased; rw [if_pos ⟨rfl, hlow⟩]
          have hv : byt (c - 97 + 65) = .int .u8 ((c.toNat : Int) - 97 + 65) := by
            unfold byt
            have : (c - 97 + 65).toNat = c.toNat - 97 + 65 := by
              rw [UInt8.toNat_add, UInt8.toNat_sub_of_le _ _ (by rw [UInt8.le_iff_toNat_le]; exact hlow.1)]
              show (c.toNat - 97 + 65) % 256 = _
              omega
            rw [this]
            congr 1
            omega
          have hp := HPUT.out _ hcs
          rw [hv, ← HB3.out] at hp
          have HP := Lib.hid hp
          clear hp hcs hv
          go_wp2
          go_roundg (gk - 1)
          case measure => exact hmeas
          case rel => exact HNEXT.out HTK.out _ HP.out (hkeep _)
        | false =>
          have hcs : cased false c = c := by unfold cased; rw [if_neg (by simp), if_neg (by omega)]
          have hp := HPUT.out _ hcs
          unfold byt at hp
          rw [← HB4.out] at hp
          have HP := Lib.hid hp
          clear hp hcs
          go_wp2
          go_roundg (gk - 1)
          case measure => exact hmeas
          case rel => exact HNEXT.out HTK.out _ HP.out (hkeep _)
      · by_cases hupp : 65 ≤ c.toNat ∧ c.toNat ≤ 90
        · obtain ⟨hb3, hb4⟩ := hb2 hupp
          have htok : tok c = true := decide_eq_true (.inr (.inr (.inr hupp)))
          have a1 : decide ((97 : Int) ≤ (c.toNat : Int)) = false := decide_eq_false (by omega)
          have a2 : decide ((65 : Int) ≤ (c.toNat : Int)) = true := decide_eq_true (by omega)
          have a3 : decide ((c.toNat : Int) ≤ 90) = true := decide_eq_true (by omega)
          have HB3 := Lib.hid hb3
          have HB4 := Lib.hid hb4
          have HTK := Lib.hid htok
          clear hb1 hb2 hb3 hb4 htok
          cases up with
          | false =>
            have hcs : cased false c = c - 65 + 97 := by unfold cased; rw [if_neg (by simp), if_pos ⟨rfl, hupp⟩]
            have hv : byt (c - 65 + 97) = .int .u8 ((c.toNat : Int) - 65 + 97) := by
              unfold byt
              have : (c - 65 + 97).toNat = c.toNat - 65 + 97 := by
                rw [UInt8.toNat_add, UInt8.toNat_sub_of_le _ _ (by rw [UInt8.le_iff_toNat_le]; exact hupp.1)]
                show (c.toNat - 65 + 97) % 256 = _
                omega
              rw [this]
              congr 1
              omega
            have hp := HPUT.out _ hcs
            rw [hv, ← HB4.out] at hp
            have HP := Lib.hid hp
            clear hp hcs hv
            go_wp2
            go_roundg (gk - 1)
            case measure => exact hmeas
            case rel => exact HNEXT.out HTK.out _ HP.out (hkeep _)
          | true =>
            have hcs : cased true c = c := by unfold cased; rw [if_neg (by omega), if_neg (by simp)]
            have hp := HPUT.out _ hcs
            unfold byt at hp
            rw [← HB3.out] at hp
            have HP := Lib.hid hp
            clear hp hcs
            go_wp2
            go_roundg (gk - 1)
            case measure => exact hmeas
            case rel => exact HNEXT.out HTK.out _ HP.out (hkeep _)
        · have hcs : cased up c = c := by unfold cased; rw [if_neg (fun h => hlow h.2), if_neg (fun h => hupp h.2)]
          have HP := Lib.hid (HSAME.out hcs)
          clear hcs hb1 hb2
          obtain ⟨sg, hsg⟩ : ∃ sg : Bool, sg = decide (signN c.toNat) := ⟨_, rfl⟩
          have hby : ∀ W : World, Calls Tryd.prog 11 #[.string ⟨#[33, 35, 36, 37, 38, 39, 42, 43, 45, 46, 94, 95, 96, 124, 126]⟩, .int .u8 c.toNat] W fun e w' => e = .returned (.bool sg) ∧ w' = W := fun W => by
            rw [hsg, ← sign_contains]
            exact hasByte9_any [33, 35, 36, 37, 38, 39, 42, 43, 45, 46, 94, 95, 96, 124, 126] c W (by decide)
          have HSG := Lib.hid hsg
          have HLOW := Lib.hid hlow
          have HUPP := Lib.hid hupp
          have htokT : sg = true → tok c = true := fun h => decide_eq_true (.inl (of_decide_eq_true (HSG.out.symm.trans h)))
          have htokD : 48 ≤ c.toNat → c.toNat ≤ 57 → tok c = true := fun h1 h2 => decide_eq_true (.inr (.inl ⟨h1, h2⟩))
          have htokF : sg = false → ¬ (48 ≤ c.toNat ∧ c.toNat ≤ 57) → tok c = false := fun h h2 => by
            have h3 := of_decide_eq_false (HSG.out.symm.trans h)
            have h4 := HLOW.out
            have h5 := HUPP.out
            exact decide_eq_false (fun h6 => by rcases h6 with h6 | h6 | h6 | h6; exact h3 h6; exact h2 h6; exact h4 h6; exact h5 h6)
          have HTT := Lib.hid htokT
          have HTD := Lib.hid htokD
          have HTF := Lib.hid htokF
          clear hsg hlow hupp htokT htokD htokF
          have hret : tok c = false → (.returned (.string ⟨l.toArray⟩) : Ending) = .returned (str (canon l)) ∧ Keeps No w wr := fun h => ⟨by rw [HBAD.out h], (kr.down (Nat.le_refl _)).mono (fun _ _ h => by cases h)⟩
          have HRET := Lib.hid hret
          clear hret
          have h4 := HLOW.out
          have h5 := HUPP.out
          have hcases : (c.toNat < 48 ∨ (57 < c.toNat ∧ c.toNat < 65)) ∨ (48 ≤ c.toNat ∧ c.toNat ≤ 57) ∨ (91 ≤ c.toNat ∧ c.toNat ≤ 96) ∨ 123 ≤ c.toNat := by omega
          clear h4 h5
          by_cases hdig : 48 ≤ c.toNat ∧ c.toNat ≤ 57
          · have htok := HTD.out hdig.1 hdig.2
            have a1 : decide ((97 : Int) ≤ (c.toNat : Int)) = false := decide_eq_false (by omega)
            have a2 : decide ((65 : Int) ≤ (c.toNat : Int)) = false := decide_eq_false (by omega)
            have a3 : decide ((c.toNat : Int) < 48) = false := decide_eq_false (by omega)
            have a4 : decide ((57 : Int) < (c.toNat : Int)) = false := decide_eq_false (by omega)
            have HTK := Lib.hid htok
            clear htok hcases hdig
            go_wp2
            go_roundg (gk - 1)
            case measure => exact hmeas
            case rel => exact HNEXT.out HTK.out _ HP.out kr
          · have hgo : sg = false → tok c = false := fun h => HTF.out h hdig
            have HGO := Lib.hid hgo
            have HLU := HLOW.out
            have HLV := HUPP.out
            have hc4 : (c.toNat < 48) ∨ (57 < c.toNat ∧ c.toNat < 65) ∨ (91 ≤ c.toNat ∧ c.toNat ≤ 96) ∨ 123 ≤ c.toNat := by omega
            clear hgo hcases hdig HLU HLV
            rcases hc4 with hq | hq | hq | hq
            · have a0 : decide ((97 : Int) ≤ (c.toNat : Int)) = false := decide_eq_false (by omega)
              have a1 : decide ((c.toNat : Int) ≤ 122) = true := decide_eq_true (by omega)
              have a2 : decide ((65 : Int) ≤ (c.toNat : Int)) = false := decide_eq_false (by omega)
              have a3 : decide ((c.toNat : Int) ≤ 90) = true := decide_eq_true (by omega)
              have a4 : decide ((c.toNat : Int) < 48) = true := decide_eq_true (by omega)
              have a5 : decide ((57 : Int) < (c.toNat : Int)) = false := decide_eq_false (by omega)
              clear hq
              cases sg with
              | true =>
                have HTK := Lib.hid (HTT.out rfl)
                go_wp2_with (go_at_call 11; refine (hby _).mono ?_; rintro e w1 ⟨rfl, rfl⟩)
                go_roundg (gk - 1)
                case measure => exact hmeas
                case rel => exact HNEXT.out HTK.out _ HP.out kr
              | false =>
                have HTK := Lib.hid (HGO.out rfl)
                go_wp2_with (go_at_call 11; refine (hby _).mono ?_; rintro e w1 ⟨rfl, rfl⟩)
                go_ret
                exact HRET.out HTK.out
            · have a0 : decide ((97 : Int) ≤ (c.toNat : Int)) = false := decide_eq_false (by omega)
              have a1 : decide ((c.toNat : Int) ≤ 122) = true := decide_eq_true (by omega)
              have a2 : decide ((65 : Int) ≤ (c.toNat : Int)) = false := decide_eq_false (by omega)
              have a3 : decide ((c.toNat : Int) ≤ 90) = true := decide_eq_true (by omega)
              have a4 : decide ((c.toNat : Int) < 48) = false := decide_eq_false (by omega)
              have a5 : decide ((57 : Int) < (c.toNat : Int)) = true := decide_eq_true (by omega)
              clear hq
              cases sg with
              | true =>
                have HTK := Lib.hid (HTT.out rfl)
                go_wp2_with (go_at_call 11; refine (hby _).mono ?_; rintro e w1 ⟨rfl, rfl⟩)
                go_roundg (gk - 1)
                case measure => exact hmeas
                case rel => exact HNEXT.out HTK.out _ HP.out kr
              | false =>
                have HTK := Lib.hid (HGO.out rfl)
                go_wp2_with (go_at_call 11; refine (hby _).mono ?_; rintro e w1 ⟨rfl, rfl⟩)
                go_ret
                exact HRET.out HTK.out
            · have a0 : decide ((97 : Int) ≤ (c.toNat : Int)) = false := decide_eq_false (by omega)
              have a1 : decide ((c.toNat : Int) ≤ 122) = true := decide_eq_true (by omega)
              have a2 : decide ((65 : Int) ≤ (c.toNat : Int)) = true := decide_eq_true (by omega)
              have a3 : decide ((c.toNat : Int) ≤ 90) = false := decide_eq_false (by omega)
              have a4 : decide ((c.toNat : Int) < 48) = false := decide_eq_false (by omega)
              have a5 : decide ((57 : Int) < (c.toNat : Int)) = true := decide_eq_true (by omega)
              clear hq
              cases sg with
              | true =>
                have HTK := Lib.hid (HTT.out rfl)
                go_wp2_with (go_at_call 11; refine (hby _).mono ?_; rintro e w1 ⟨rfl, rfl⟩)
                go_roundg (gk - 1)
                case measure => exact hmeas
                case rel => exact HNEXT.out HTK.out _ HP.out kr
              | false =>
                have HTK := Lib.hid (HGO.out rfl)
                go_wp2_with (go_at_call 11; refine (hby _).mono ?_; rintro e w1 ⟨rfl, rfl⟩)
                go_ret
                exact HRET.out HTK.out
            · have a0 : decide ((97 : Int) ≤ (c.toNat : Int)) = true := decide_eq_true (by omega)
              have a1 : decide ((c.toNat : Int) ≤ 122) = false := decide_eq_false (by omega)
              have a2 : decide ((65 : Int) ≤ (c.toNat : Int)) = true := decide_eq_true (by omega)
              have a3 : decide ((c.toNat : Int) ≤ 90) = false := decide_eq_false (by omega)
              have a4 : decide ((c.toNat : Int) < 48) = false := decide_eq_false (by omega)
              have a5 : decide ((57 : Int) < (c.toNat : Int)) = true := decide_eq_true (by omega)
              clear hq
              cases sg with
              | true =>
                have HTK := Lib.hid (HTT.out rfl)
                go_wp2_with (go_at_call 11; refine (hby _).mono ?_; rintro e w1 ⟨rfl, rfl⟩)
                go_roundg (gk - 1)
                case measure => exact hmeas
                case rel => exact HNEXT.out HTK.out _ HP.out kr
              | false =>
                have HTK := Lib.hid (HGO.out rfl)
                go_wp2_with (go_at_call 11; refine (hby _).mono ?_; rintro e w1 ⟨rfl, rfl⟩)
                go_ret
                exact HRET.out HTK.out
end Go.Proofs.YtjbbapodcngnaaaDoor
